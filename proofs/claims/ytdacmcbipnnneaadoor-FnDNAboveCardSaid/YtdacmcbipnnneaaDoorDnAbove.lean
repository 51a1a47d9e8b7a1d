/- The walk of FnDNAbove: a name with parts ahead of it has it as its ancestor, and is not its ancestor. -/
import Derived.Test.YtdacmcbipnnneaaDoorDnPT
namespace Go.Proofs.YtdacmcbipnnneaaDoor.PXD
open Go.RowKit Go.Proofs.YtdacmcbipnnneaaDoorW.PrintWords Go.Proofs.YtdacmcbipnnneaaDoorW.PrintLast
set_option linter.unusedVariables false
set_option linter.unusedSimpArgs false

theorem dnAnc_above (more dn : List (List At)) (h : 0 < more.length) : dnAnc dn (more ++ dn) = true ∧ dnAnc (more ++ dn) dn = false := by
  constructor
  · unfold dnAnc
    rw [show (more ++ dn).length - dn.length = more.length by simp, List.drop_left, allEq_refl, decide_eq_true (by simp; omega)]
    rfl
  · unfold dnAnc
    rw [decide_eq_false (by simp)]; rfl

theorem c_below {w w1 : World} {A : Option Addr} {n : Nat} {l : List (List S34)} (h : Kd.C (Kd.slice 34 k34) w A n l) (hb : Below w.heap.size w w1) : Kd.C (Kd.slice 34 k34) w1 A n l := Kd.C_below h hb

/-- The cells of a name: slices side by side. -/
def Cells (w : World) (ao : Option Addr) (vs : List Value) (xss : List (List At)) : Prop :=
  vs.length = xss.length ∧ (∀ ad, ao = some ad → ∀ j u, vs[j]? = some u → w.cell? (ad.add j) = some u) ∧ ∀ j (h : j < xss.length), ∃ A0 c0, vs[j]? = some (.slice A0 xss[j].length c0) ∧ AttrsAt w A0 xss[j]
theorem cells_of {w : World} {ao : Option Addr} {xss : List (List At)} (h : NamesAt w ao xss) : ∃ vs, Cells w ao vs xss := by
  obtain ⟨vs, hl, hv⟩ := list_of (α := Value) (n := xss.length) (p := fun j y => ∃ (hj : j < xss.length), (∀ ad, ao = some ad → w.cell? (ad.add j) = some y) ∧ ∃ A0 c0, y = .slice A0 xss[j].length c0 ∧ AttrsAt w A0 xss[j]) (fun j hj => by
    obtain ⟨ad, A0, c0, e, h0, h1⟩ := h j hj
    exact ⟨.slice A0 xss[j].length c0, hj, fun ad' e' => by rw [e] at e'; injection e' with e'; subst e'; exact h0, A0, c0, rfl, h1⟩)
  refine ⟨vs, hl, fun ad e j u hu => ?_, fun j hj => ?_⟩
  · obtain ⟨_, h2, _⟩ := hv j u hu
    exact h2 ad e
  · have hj2 : j < vs.length := by omega
    obtain ⟨_, _, A0, c0, e, h3⟩ := hv j vs[j] (List.getElem?_eq_getElem hj2)
    exact ⟨A0, c0, by rw [← e]; exact List.getElem?_eq_getElem hj2, h3⟩
theorem Cells.one {w : World} {ao : Option Addr} {vs : List Value} {xss : List (List At)} (h : Cells w ao vs xss) : ∀ u ∈ vs, u.oneCell' = true := by
  intro u hu
  obtain ⟨j, hj⟩ := List.mem_iff_getElem?.1 hu
  have hj2 := (List.getElem?_eq_some_iff.1 hj).1
  obtain ⟨A0, c0, e, _⟩ := h.2.2 j (by have := h.1; omega)
  rw [e] at hj
  injection hj with hj
  subst hj
  rfl
/-- Names that lie in a row of the call's own. -/
theorem names_of_own {w w' : World} {B g n cap : Nat} {a0 a1 : Option Addr} {vs us : List Value} {xs ys : List (List At)} (h : w'.ownsRow B 31 1 (.slice (some ⟨g, 0, none⟩) n cap) n (vs ++ us)) (hb : Below w.heap.size w w') (h0 : Cells w a0 vs xs) (h1 : Cells w a1 us ys) :
    NamesAt w' (some ⟨g, 0, none⟩) (xs ++ ys) := by
  intro i hi
  have hle : (xs ++ ys).length = n := by have := h.1; have := h0.1; have := h1.1; simp at *; omega
  rcases h.2 with ⟨e, _⟩ | ⟨g2, cap2, cur, hv, hbg, hg, hnc, hcm, hcs, ht⟩
  · cases e
  · injection hv with e1 e2 e3
    injection e1 with e1
    injection e1 with e1
    subst e1
    have hget : ∀ u, (vs ++ us)[i]? = some u → w'.cell? ((⟨g, 0, none⟩ : Addr).add i) = some u := by
      intro u hu
      rw [← ht] at hu
      rw [List.getElem?_take] at hu
      split at hu
      · rw [Addr.add_lit, Nat.zero_add]
        simp only [World.cell?, hg]
        simpa using hu
      · cases hu
    by_cases hx : i < xs.length
    · obtain ⟨A, c, e, k⟩ := h0.2.2 i hx
      refine ⟨_, A, c, rfl, ?_, ?_⟩
      · rw [hget _ (by rw [List.getElem?_append_left (by have := h0.1; omega)]; exact e)]
        rw [List.getElem_append_left hx]
      · rw [List.getElem_append_left hx]; exact k.below hb
    · have hy : i - xs.length < ys.length := by simp at hi; omega
      obtain ⟨A, c, e, k⟩ := h1.2.2 (i - xs.length) hy
      have hl := h0.1
      refine ⟨_, A, c, rfl, ?_, ?_⟩
      · rw [hget _ (by rw [List.getElem?_append_right (by omega), hl]; exact e)]
        rw [List.getElem_append_right (by omega)]
      · rw [List.getElem_append_right (by omega)]; exact k.below hb

theorem anc_call {A : Option Addr} {c n : Nat} {xs : List (List At)} {B : Option Addr} {d m : Nat} {ys : List (List At)} (hn : xs.length = n) (hm : ys.length = m) (s0 : Small xs) (s1 : Small ys) (b : Bool) (hb : dnAnc xs ys = b) (w : World) (h0 : NamesAt w A xs) (h1 : NamesAt w B ys) :
    Calls Tryd.prog 17 #[.slice A n c, .slice B m d] w fun e w' => e = .returned (.bool b) ∧ Below w.heap.size w w' := by
  subst hn hm hb
  exact implAncestor_any A c xs B d ys s0 s1 w h0 h1

set_option maxHeartbeats 4000000 in
theorem above_main (A0 : Option Addr) (c0 : Nat) (l0 : List (List S34)) (A1 : Option Addr) (c1 : Nat) (l1 : List (List S34)) (w : World) (hr0 : Kd.C (Kd.slice 34 k34) w A0 l0.length l0) (hc0 : l0.length ≤ c0) (hr1 : Kd.C (Kd.slice 34 k34) w A1 l1.length l1) (hc1 : l1.length ≤ c1) (hnil : A1 = none → c1 = 0)
    (z0 : ∀ w, Kd.C (Kd.slice 34 k34) w A0 l0.length l0 → Calls Tryd.prog 7 #[.slice A0 l0.length c0] w fun e w' => e = .returned (.bool true) ∧ Below w.heap.size w w')
    (z1 : ∀ w, Kd.C (Kd.slice 34 k34) w A1 l1.length l1 → Calls Tryd.prog 7 #[.slice A1 l1.length c1] w fun e w' => e = .returned (.bool true) ∧ Below w.heap.size w w')
    (n0 : ∀ w, Kd.C (Kd.slice 34 k34) w A0 l0.length l0 → Calls Tryd.prog 9 #[.slice A0 l0.length c0] w fun e w' => e = .returned (.bool true) ∧ Below w.heap.size w w')
    (n1 : ∀ w, Kd.C (Kd.slice 34 k34) w A1 l1.length l1 → Calls Tryd.prog 9 #[.slice A1 l1.length c1] w fun e w' => e = .returned (.bool true) ∧ Below w.heap.size w w')
    (h0 : 0 < l0.length) (s0 : NamesOk l0) (s1 : NamesOk l1) :
    Calls Tryd.prog 5 #[.slice A0 l0.length c0, .slice A1 l1.length c1] w fun e w' => e = .returned (.bool true) ∧ Below w.heap.size w w' := by
  obtain ⟨i0, hi0, hz0, hz1, hz2⟩ := info_parts info31
  have la := s0.1
  have lb := s1.1
  have SM : Hid (Small (toDn l0 ++ toDn l1)) := Lib.hid (by
    have a := s0.small
    have b := s1.small
    refine ⟨by simp [toDn]; omega, fun r hr => ?_⟩
    rcases List.mem_append.1 hr with h | h
    · exact a.2 r h
    · exact b.2 r h)
  have S1 : Hid (Small (toDn l1)) := Lib.hid s1.small
  obtain ⟨a0, rfl⟩ : ∃ a, A0 = some a := by
    obtain ⟨ad, _, _, e, _⟩ := names_of hr0 0 (by simpa [toDn] using h0)
    exact ⟨ad, e⟩
  have R0 := Lib.hid hr0
  have R1 := Lib.hid hr1
  have Z0 := Lib.hid z0
  have Z1 := Lib.hid z1
  have N0 := Lib.hid n0
  have N1 := Lib.hid n1
  have HN := Lib.hid hnil
  clear hr0 hr1 z0 z1 n0 n1 s0 s1 hnil
  go_enter Tryd.func5, Tryd.ntmps5
  go_wp2_with fail
  refine (Z0.out _ R0.out).mono ?_
  rintro e w1 ⟨rfl, b⟩
  have B1 := Lib.hid b
  clear b
  go_wp2_with fail
  refine (Z1.out _ (c_below R1.out B1.out)).mono ?_
  rintro e w2 ⟨rfl, b⟩
  have B2 := Lib.hid (B1.out.trans (b.mono B1.out.size))
  clear b
  go_wp2_with fail
  refine (N0.out _ (c_below R0.out B2.out)).mono ?_
  rintro e w3 ⟨rfl, b⟩
  have B3 := Lib.hid (B2.out.trans (b.mono B2.out.size))
  clear b
  go_wp2_with fail
  refine (N1.out _ (c_below R1.out B3.out)).mono ?_
  rintro e w4 ⟨rfl, b⟩
  have B4 := Lib.hid (B3.out.trans (b.mono B3.out.size))
  clear b
  obtain ⟨vs, hvs⟩ := cells_of (names_of (c_below R0.out B4.out))
  obtain ⟨us, hus⟩ := cells_of (names_of (c_below R1.out B4.out))
  have VS := Lib.hid hvs
  have US := Lib.hid hus
  clear hvs hus
  have OW : Hid ((w4.alloc (.cells #[] 31)).ownsRow w4.heap.size 31 1 (.slice (some ⟨w4.heap.size, 0, none⟩) 0 0) 0 []) := Lib.hid ⟨rfl, .inr ⟨w4.heap.size, 0, #[], rfl, Nat.le_refl _, heap_alloc_new _ _, Nat.le_refl _, Nat.zero_le _, rfl, rfl⟩⟩
  have vl : Hid (vs.length = l0.length) := Lib.hid (by rw [VS.out.1]; simp [toDn])
  have ul : Hid (us.length = l1.length) := Lib.hid (by rw [US.out.1]; simp [toDn])
  have BA : Hid (Below w4.heap.size w4 (w4.alloc (.cells #[] 31))) := Lib.hid ((Below.refl _ _).alloc (Nat.le_refl _) _)
  go_wp2_with (at_builtin; refine wpList_append_lies _ rfl (.tmp 28) (.tmp 29) 22 rfl w4.heap.size 31 i0 (.slice none 0 0) 1 24 Tryd.underlying22 hi0 hz0 hz1 hz2 rfl (by omega) (.slice (some ⟨w4.heap.size, 0, none⟩) 0 0) 0 [] rfl OW.out a0 l0.length c0 vs rfl (by rw [vl.out, Nat.mul_one]) (fun j u hu => by have h1 := VS.out.2.1 a0 rfl j u hu; rw [BA.out.cell (World.block_lt_of_cell? w4 _ h1)]; exact h1) VS.out.one h0 (by unfold maxLen; omega) (by omega) (by simp) _ rfl ?_)
  intro g cap w5 hown hgrow hat hlt
  have BG := Lib.hid (BA.out.trans (grown_below' hgrow (fun k e => by simp [Value.ownBlock] at e; omega) (by simp)))
  have OV := Lib.hid hown
  clear hown hgrow hat
  have hcap : l0.length ≤ cap := by
    rcases OV.out.2 with ⟨e, _⟩ | ⟨_, _, _, e, _, _, h, _⟩
    · cases e
    · injection e with _ _ e3; omega
  have UC : Hid (∀ ad, A1 = some ad → ∀ j u, us[j]? = some u → w5.cell? (ad.add j) = some u) := Lib.hid fun ad e j u hu => by have h1 := US.out.2.1 ad e j u hu; rw [BG.out.cell (World.block_lt_of_cell? w4 _ h1)]; exact h1
  have HL : Hid (∀ g2 cap2 w6, w6.ownsRow w4.heap.size 31 1 (.slice (some ⟨g2, 0, none⟩) (l0.length + l1.length) cap2) (l0.length + l1.length) (vs ++ us) → w5.grownBy w6 (some g) → Below w4.heap.size w4 w6 ∧ NamesAt w6 (some ⟨g2, 0, none⟩) (toDn l0 ++ toDn l1)) := Lib.hid fun g2 cap2 w6 ho hg => by
    have hb : Below w4.heap.size w4 w6 := BG.out.trans (grown_below' hg (fun k e => by injection e with e; subst e; exact ((OV.out.lt g rfl).1)) BG.out.size)
    exact ⟨hb, names_of_own ho hb VS.out US.out⟩
  have D1 : Hid (dnAnc (toDn l1) (toDn l0 ++ toDn l1) = true ∧ dnAnc (toDn l0 ++ toDn l1) (toDn l1) = false) := Lib.hid (dnAnc_above _ _ (by simpa [toDn] using h0))
  rcases Nat.eq_zero_or_pos l1.length with hz | hz
  · have HZ := Lib.hid hz
    have fit : l0.length + l1.length ≤ cap := by omega
    clear hz
    go_wp2_with (at_builtin; refine wpList_append_fits_any _ rfl (.tmp 30) (.tmp 31) 22 rfl w4.heap.size 31 i0 1 Tryd.underlying22 hi0 hz1 g l0.length cap vs rfl OV.out A1 l1.length c1 us rfl (by rw [ul.out, Nat.mul_one]) (fun e => ⟨HZ.out, HN.out e⟩) UC.out US.out.one fit ?_)
    intro w6 hown hgrow
    obtain ⟨hb6, hn6⟩ := HL.out g cap w6 hown hgrow
    have B6 := Lib.hid hb6
    have N6 := Lib.hid hn6
    clear hb6 hn6 hown hgrow
    go_wp2_with fail
    refine (anc_call (n := l1.length) (m := l0.length + l1.length) (by simp [toDn]) (by simp [toDn]) S1.out SM.out true D1.out.1 _ ((names_of (c_below R1.out B4.out)).below B6.out) N6.out).mono ?_
    rintro e w7 ⟨rfl, b⟩
    have B67 := Lib.hid b
    have B7 := Lib.hid (B6.out.trans (b.mono B6.out.size))
    clear b
    go_wp2_with fail
    refine (anc_call (n := l0.length + l1.length) (m := l1.length) (by simp [toDn]) (by simp [toDn]) SM.out S1.out false D1.out.2 _ (N6.out.below B67.out) ((names_of (c_below R1.out B4.out)).below B7.out)).mono ?_
    rintro e w8 ⟨rfl, b⟩
    have B8 := Lib.hid (B7.out.trans (b.mono B7.out.size))
    clear b
    go_wp2_with fail
    refine (laws_awakeDN.calls true _ awake_ev).mono ?_
    rintro e w9 ⟨rfl, b⟩
    have B9 := Lib.hid (B8.out.trans (b.mono B8.out.size))
    clear b
    go_wp2_with fail
    go_ret
    exact ⟨rfl, B4.out.trans (B9.out.mono B4.out.size)⟩
  · obtain ⟨a1, ha1⟩ : ∃ a, A1 = some a := by
      obtain ⟨ad, _, _, e, _⟩ := names_of R1.out 0 (by simpa [toDn] using hz)
      exact ⟨ad, e⟩
    subst ha1
    go_wp2_with (at_builtin; refine wpList_append_lies _ rfl (.tmp 30) (.tmp 31) 22 rfl w4.heap.size 31 i0 (.slice none 0 0) 1 24 Tryd.underlying22 hi0 hz0 hz1 hz2 rfl (by omega) (.slice (some ⟨g, 0, none⟩) l0.length cap) l0.length vs rfl OV.out a1 l1.length c1 us rfl (by rw [ul.out, Nat.mul_one]) (UC.out a1 rfl) US.out.one hz (by unfold maxLen; omega) (by omega) BG.out.size _ rfl ?_)
    intro g2 cap2 w6 hown hgrow hat hlt2
    obtain ⟨hb6, hn6⟩ := HL.out g2 cap2 w6 hown hgrow
    have B6 := Lib.hid hb6
    have N6 := Lib.hid hn6
    clear hb6 hn6 hown hgrow
    go_wp2_with fail
    refine (anc_call (n := l1.length) (m := l0.length + l1.length) (by simp [toDn]) (by simp [toDn]) S1.out SM.out true D1.out.1 _ ((names_of (c_below R1.out B4.out)).below B6.out) N6.out).mono ?_
    rintro e w7 ⟨rfl, b⟩
    have B67 := Lib.hid b
    have B7 := Lib.hid (B6.out.trans (b.mono B6.out.size))
    clear b
    go_wp2_with fail
    refine (anc_call (n := l0.length + l1.length) (m := l1.length) (by simp [toDn]) (by simp [toDn]) SM.out S1.out false D1.out.2 _ (N6.out.below B67.out) ((names_of (c_below R1.out B4.out)).below B7.out)).mono ?_
    rintro e w8 ⟨rfl, b⟩
    have B8 := Lib.hid (B7.out.trans (b.mono B7.out.size))
    clear b
    go_wp2_with fail
    refine (laws_awakeDN.calls true _ awake_ev).mono ?_
    rintro e w9 ⟨rfl, b⟩
    have B9 := Lib.hid (B8.out.trans (b.mono B8.out.size))
    clear b
    go_wp2_with fail
    go_ret
    exact ⟨rfl, B4.out.trans (B9.out.mono B4.out.size)⟩
set_option maxHeartbeats 4000000 in
theorem above_z0 (A0 : Option Addr) (c0 : Nat) (l0 : List (List S34)) (A1 : Option Addr) (c1 : Nat) (l1 : List (List S34)) (w : World) (hr0 : Kd.C (Kd.slice 34 k34) w A0 l0.length l0) (hr1 : Kd.C (Kd.slice 34 k34) w A1 l1.length l1)
    (z0 : ∀ w, Kd.C (Kd.slice 34 k34) w A0 l0.length l0 → Calls Tryd.prog 7 #[.slice A0 l0.length c0] w fun e w' => e = .returned (.bool false) ∧ Below w.heap.size w w') :
    Calls Tryd.prog 5 #[.slice A0 l0.length c0, .slice A1 l1.length c1] w fun e w' => e = .returned (.bool true) ∧ Below w.heap.size w w' := by
  have R0 := Lib.hid hr0
  have R1 := Lib.hid hr1
  have Z0 := Lib.hid z0
  clear hr0 hr1 z0
  go_enter Tryd.func5, Tryd.ntmps5
  have B0 : Hid (Below w.heap.size w w) := Lib.hid (Below.refl _ _)
  go_wp2_with fail
  refine (Z0.out _ (c_below R0.out B0.out)).mono ?_
  rintro e w1 ⟨rfl, b⟩
  have B1 := Lib.hid (B0.out.trans (b.mono B0.out.size))
  clear b
  go_wp2_with fail
  go_ret
  exact ⟨rfl, B1.out⟩

set_option maxHeartbeats 4000000 in
theorem above_z1 (A0 : Option Addr) (c0 : Nat) (l0 : List (List S34)) (A1 : Option Addr) (c1 : Nat) (l1 : List (List S34)) (w : World) (hr0 : Kd.C (Kd.slice 34 k34) w A0 l0.length l0) (hr1 : Kd.C (Kd.slice 34 k34) w A1 l1.length l1)
    (z0 : ∀ w, Kd.C (Kd.slice 34 k34) w A0 l0.length l0 → Calls Tryd.prog 7 #[.slice A0 l0.length c0] w fun e w' => e = .returned (.bool true) ∧ Below w.heap.size w w')
    (z1 : ∀ w, Kd.C (Kd.slice 34 k34) w A1 l1.length l1 → Calls Tryd.prog 7 #[.slice A1 l1.length c1] w fun e w' => e = .returned (.bool false) ∧ Below w.heap.size w w') :
    Calls Tryd.prog 5 #[.slice A0 l0.length c0, .slice A1 l1.length c1] w fun e w' => e = .returned (.bool true) ∧ Below w.heap.size w w' := by
  have R0 := Lib.hid hr0
  have R1 := Lib.hid hr1
  have Z0 := Lib.hid z0
  have Z1 := Lib.hid z1
  clear hr0 hr1 z0 z1
  go_enter Tryd.func5, Tryd.ntmps5
  have B0 : Hid (Below w.heap.size w w) := Lib.hid (Below.refl _ _)
  go_wp2_with fail
  refine (Z0.out _ (c_below R0.out B0.out)).mono ?_
  rintro e w1 ⟨rfl, b⟩
  have B1 := Lib.hid (B0.out.trans (b.mono B0.out.size))
  clear b
  go_wp2_with fail
  refine (Z1.out _ (c_below R1.out B1.out)).mono ?_
  rintro e w2 ⟨rfl, b⟩
  have B2 := Lib.hid (B1.out.trans (b.mono B1.out.size))
  clear b
  go_wp2_with fail
  go_ret
  exact ⟨rfl, B2.out⟩

set_option maxHeartbeats 4000000 in
theorem above_n0 (A0 : Option Addr) (c0 : Nat) (l0 : List (List S34)) (A1 : Option Addr) (c1 : Nat) (l1 : List (List S34)) (w : World) (hr0 : Kd.C (Kd.slice 34 k34) w A0 l0.length l0) (hr1 : Kd.C (Kd.slice 34 k34) w A1 l1.length l1)
    (z0 : ∀ w, Kd.C (Kd.slice 34 k34) w A0 l0.length l0 → Calls Tryd.prog 7 #[.slice A0 l0.length c0] w fun e w' => e = .returned (.bool true) ∧ Below w.heap.size w w')
    (z1 : ∀ w, Kd.C (Kd.slice 34 k34) w A1 l1.length l1 → Calls Tryd.prog 7 #[.slice A1 l1.length c1] w fun e w' => e = .returned (.bool true) ∧ Below w.heap.size w w')
    (n0 : ∀ w, Kd.C (Kd.slice 34 k34) w A0 l0.length l0 → Calls Tryd.prog 9 #[.slice A0 l0.length c0] w fun e w' => e = .returned (.bool false) ∧ Below w.heap.size w w') :
    Calls Tryd.prog 5 #[.slice A0 l0.length c0, .slice A1 l1.length c1] w fun e w' => e = .returned (.bool true) ∧ Below w.heap.size w w' := by
  have R0 := Lib.hid hr0
  have R1 := Lib.hid hr1
  have Z0 := Lib.hid z0
  have Z1 := Lib.hid z1
  have N0 := Lib.hid n0
  clear hr0 hr1 z0 z1 n0
  go_enter Tryd.func5, Tryd.ntmps5
  have B0 : Hid (Below w.heap.size w w) := Lib.hid (Below.refl _ _)
  go_wp2_with fail
  refine (Z0.out _ (c_below R0.out B0.out)).mono ?_
  rintro e w1 ⟨rfl, b⟩
  have B1 := Lib.hid (B0.out.trans (b.mono B0.out.size))
  clear b
  go_wp2_with fail
  refine (Z1.out _ (c_below R1.out B1.out)).mono ?_
  rintro e w2 ⟨rfl, b⟩
  have B2 := Lib.hid (B1.out.trans (b.mono B1.out.size))
  clear b
  go_wp2_with fail
  refine (N0.out _ (c_below R0.out B2.out)).mono ?_
  rintro e w3 ⟨rfl, b⟩
  have B3 := Lib.hid (B2.out.trans (b.mono B2.out.size))
  clear b
  go_wp2_with fail
  refine (laws_awakeDN.calls true _ awake_ev).mono ?_
  rintro e w4 ⟨rfl, b⟩
  have B4 := Lib.hid (B3.out.trans (b.mono B3.out.size))
  clear b
  go_wp2_with fail
  go_ret
  exact ⟨rfl, B4.out⟩

set_option maxHeartbeats 4000000 in
theorem above_n1 (A0 : Option Addr) (c0 : Nat) (l0 : List (List S34)) (A1 : Option Addr) (c1 : Nat) (l1 : List (List S34)) (w : World) (hr0 : Kd.C (Kd.slice 34 k34) w A0 l0.length l0) (hr1 : Kd.C (Kd.slice 34 k34) w A1 l1.length l1)
    (z0 : ∀ w, Kd.C (Kd.slice 34 k34) w A0 l0.length l0 → Calls Tryd.prog 7 #[.slice A0 l0.length c0] w fun e w' => e = .returned (.bool true) ∧ Below w.heap.size w w')
    (z1 : ∀ w, Kd.C (Kd.slice 34 k34) w A1 l1.length l1 → Calls Tryd.prog 7 #[.slice A1 l1.length c1] w fun e w' => e = .returned (.bool true) ∧ Below w.heap.size w w')
    (n0 : ∀ w, Kd.C (Kd.slice 34 k34) w A0 l0.length l0 → Calls Tryd.prog 9 #[.slice A0 l0.length c0] w fun e w' => e = .returned (.bool true) ∧ Below w.heap.size w w')
    (n1 : ∀ w, Kd.C (Kd.slice 34 k34) w A1 l1.length l1 → Calls Tryd.prog 9 #[.slice A1 l1.length c1] w fun e w' => e = .returned (.bool false) ∧ Below w.heap.size w w') :
    Calls Tryd.prog 5 #[.slice A0 l0.length c0, .slice A1 l1.length c1] w fun e w' => e = .returned (.bool true) ∧ Below w.heap.size w w' := by
  have R0 := Lib.hid hr0
  have R1 := Lib.hid hr1
  have Z0 := Lib.hid z0
  have Z1 := Lib.hid z1
  have N0 := Lib.hid n0
  have N1 := Lib.hid n1
  clear hr0 hr1 z0 z1 n0 n1
  go_enter Tryd.func5, Tryd.ntmps5
  have B0 : Hid (Below w.heap.size w w) := Lib.hid (Below.refl _ _)
  go_wp2_with fail
  refine (Z0.out _ (c_below R0.out B0.out)).mono ?_
  rintro e w1 ⟨rfl, b⟩
  have B1 := Lib.hid (B0.out.trans (b.mono B0.out.size))
  clear b
  go_wp2_with fail
  refine (Z1.out _ (c_below R1.out B1.out)).mono ?_
  rintro e w2 ⟨rfl, b⟩
  have B2 := Lib.hid (B1.out.trans (b.mono B1.out.size))
  clear b
  go_wp2_with fail
  refine (N0.out _ (c_below R0.out B2.out)).mono ?_
  rintro e w3 ⟨rfl, b⟩
  have B3 := Lib.hid (B2.out.trans (b.mono B2.out.size))
  clear b
  go_wp2_with fail
  refine (N1.out _ (c_below R1.out B3.out)).mono ?_
  rintro e w4 ⟨rfl, b⟩
  have B4 := Lib.hid (B3.out.trans (b.mono B3.out.size))
  clear b
  go_wp2_with fail
  refine (laws_awakeDN.calls true _ awake_ev).mono ?_
  rintro e w5 ⟨rfl, b⟩
  have B5 := Lib.hid (B4.out.trans (b.mono B4.out.size))
  clear b
  go_wp2_with fail
  go_ret
  exact ⟨rfl, B5.out⟩

set_option maxHeartbeats 4000000 in
theorem above_empty (A0 : Option Addr) (c0 : Nat) (l0 : List (List S34)) (A1 : Option Addr) (c1 : Nat) (l1 : List (List S34)) (w : World) (hr0 : Kd.C (Kd.slice 34 k34) w A0 l0.length l0) (hr1 : Kd.C (Kd.slice 34 k34) w A1 l1.length l1)
    (z0 : ∀ w, Kd.C (Kd.slice 34 k34) w A0 l0.length l0 → Calls Tryd.prog 7 #[.slice A0 l0.length c0] w fun e w' => e = .returned (.bool true) ∧ Below w.heap.size w w')
    (z1 : ∀ w, Kd.C (Kd.slice 34 k34) w A1 l1.length l1 → Calls Tryd.prog 7 #[.slice A1 l1.length c1] w fun e w' => e = .returned (.bool true) ∧ Below w.heap.size w w')
    (n0 : ∀ w, Kd.C (Kd.slice 34 k34) w A0 l0.length l0 → Calls Tryd.prog 9 #[.slice A0 l0.length c0] w fun e w' => e = .returned (.bool true) ∧ Below w.heap.size w w')
    (n1 : ∀ w, Kd.C (Kd.slice 34 k34) w A1 l1.length l1 → Calls Tryd.prog 9 #[.slice A1 l1.length c1] w fun e w' => e = .returned (.bool true) ∧ Below w.heap.size w w')
    (h0 : l0.length = 0) :
    Calls Tryd.prog 5 #[.slice A0 l0.length c0, .slice A1 l1.length c1] w fun e w' => e = .returned (.bool true) ∧ Below w.heap.size w w' := by
  have R0 := Lib.hid hr0
  have R1 := Lib.hid hr1
  have Z0 := Lib.hid z0
  have Z1 := Lib.hid z1
  have N0 := Lib.hid n0
  have N1 := Lib.hid n1
  obtain rfl : l0 = [] := List.eq_nil_of_length_eq_zero h0
  clear hr0 hr1 z0 z1 n0 n1 h0
  go_enter Tryd.func5, Tryd.ntmps5
  have B0 : Hid (Below w.heap.size w w) := Lib.hid (Below.refl _ _)
  go_wp2_with fail
  refine (Z0.out _ (c_below R0.out B0.out)).mono ?_
  rintro e w1 ⟨rfl, b⟩
  have B1 := Lib.hid (B0.out.trans (b.mono B0.out.size))
  clear b
  go_wp2_with fail
  refine (Z1.out _ (c_below R1.out B1.out)).mono ?_
  rintro e w2 ⟨rfl, b⟩
  have B2 := Lib.hid (B1.out.trans (b.mono B1.out.size))
  clear b
  go_wp2_with fail
  refine (N0.out _ (c_below R0.out B2.out)).mono ?_
  rintro e w3 ⟨rfl, b⟩
  have B3 := Lib.hid (B2.out.trans (b.mono B2.out.size))
  clear b
  go_wp2_with fail
  refine (N1.out _ (c_below R1.out B3.out)).mono ?_
  rintro e w4 ⟨rfl, b⟩
  have B4 := Lib.hid (B3.out.trans (b.mono B3.out.size))
  clear b
  go_wp2_with fail
  refine (laws_awakeDN.calls true _ awake_ev).mono ?_
  rintro e w5 ⟨rfl, b⟩
  have B5 := Lib.hid (B4.out.trans (b.mono B4.out.size))
  clear b
  go_wp2_with fail
  go_ret
  exact ⟨rfl, B5.out⟩

/-- The walk of FnDNAbove: true; nothing that was is changed. -/
theorem above_walk (A0 : Option Addr) (c0 : Nat) (l0 : List (List S34)) (A1 : Option Addr) (c1 : Nat) (l1 : List (List S34)) (w : World) (hr0 : Kd.C (Kd.slice 34 k34) w A0 l0.length l0) (hc0 : l0.length ≤ c0) (hr1 : Kd.C (Kd.slice 34 k34) w A1 l1.length l1) (hc1 : l1.length ≤ c1) (hnil : A1 = none → c1 = 0) :
    Calls Tryd.prog 5 #[.slice A0 l0.length c0, .slice A1 l1.length c1] w fun e w' => e = .returned (.bool true) ∧ Below w.heap.size w w' := by
  obtain ⟨b0, hz0, hf0⟩ := fits3 l0
  obtain ⟨b1, hz1, hf1⟩ := fits3 l1
  obtain ⟨k0, e0⟩ := Ev.rounds hz0
  obtain ⟨k1, e1⟩ := Ev.rounds hz1
  have z0 := fun w (h : Kd.C (Kd.slice 34 k34) w A0 l0.length l0) => laws_zzFits3.calls k0 A0 c0 l0 b0 w h hc0 e0
  have z1 := fun w (h : Kd.C (Kd.slice 34 k34) w A1 l1.length l1) => laws_zzFits3.calls k1 A1 c1 l1 b1 w h hc1 e1
  cases b0 with
  | false => exact above_z0 A0 c0 l0 A1 c1 l1 w hr0 hr1 z0
  | true =>
  cases b1 with
  | false => exact above_z1 A0 c0 l0 A1 c1 l1 w hr0 hr1 z0 z1
  | true =>
  obtain ⟨m0, hn0, ho0⟩ := names_ev l0 (hf0 rfl)
  obtain ⟨m1, hn1, ho1⟩ := names_ev l1 (hf1 rfl)
  obtain ⟨k2, e2⟩ := Ev.rounds hn0
  obtain ⟨k3, e3⟩ := Ev.rounds hn1
  have n0 := fun w (h : Kd.C (Kd.slice 34 k34) w A0 l0.length l0) => laws_names.calls k2 A0 c0 l0 m0 w h hc0 e2
  have n1 := fun w (h : Kd.C (Kd.slice 34 k34) w A1 l1.length l1) => laws_names.calls k3 A1 c1 l1 m1 w h hc1 e3
  cases m0 with
  | false => exact above_n0 A0 c0 l0 A1 c1 l1 w hr0 hr1 z0 z1 n0
  | true =>
  cases m1 with
  | false => exact above_n1 A0 c0 l0 A1 c1 l1 w hr0 hr1 z0 z1 n0 n1
  | true =>
  rcases Nat.eq_zero_or_pos l0.length with h | h
  · exact above_empty A0 c0 l0 A1 c1 l1 w hr0 hr1 z0 z1 n0 n1 h
  · exact above_main A0 c0 l0 A1 c1 l1 w hr0 hc0 hr1 hc1 hnil z0 z1 n0 n1 h (ho0 rfl) (ho1 rfl)
end Go.Proofs.YtdacmcbipnnneaaDoor.PXD
