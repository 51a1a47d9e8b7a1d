/- The plain law FnDNMatch: parts in whatever order. -/
import Derived.Test.YtdacmcbipnnneaaDoorDnS
import Derived.Test.YtdacmcbipnnneaaDoorDnT
import Derived.Test.YtdacmcbipnnneaaDoorPXDx9
namespace Go.Proofs.YtdacmcbipnnneaaDoor.PXD
open Go.RowKit Go.Proofs.YtdacmcbipnnneaaDoorW.PrintWords Go.Proofs.YtdacmcbipnnneaaDoorW.PrintLast
set_option linter.unusedVariables false
set_option linter.unusedSimpArgs false

theorem getL (xs : List (List S34)) (i : Nat) (h : i < xs.length) : rd_L2 xs (i : Int) = xs[i] := by rw [rdL]; simp [List.getD, h]

theorem once_ev (a : List (List S34)) (hf : FitAll a) (ho : ∀ r ∈ a, Once (r.map toAt)) : ∃ r, Ev (fun k => spec_DNOnce.f k a) r ∧ (r = true → OnceAll (toDn a)) := by
  have hn := hf.1
  have key : ∀ d i, a.length - i = d → i ≤ a.length → ∃ r, Ev (fun k => spec_DNOnce.l0 k a a (a.length : Int) (i : Int)) r ∧ (r = true → ∀ j (h : j < a.length), i ≤ j → ∀ m (hm : m < j), rdnEq (a[j].map toAt) (a[m].map toAt) = false) := by
    intro d
    induction d with
    | zero =>
      intro i hd hi
      obtain ⟨r, hr, _⟩ := setKnown_ev a hn hf.2
      refine ⟨r, Ev.step (f := fun k => (spec_DNSetKnown.f k a).bind fun t => some t) (fun k => ?_) (Ev.bind (f := fun _ t => some t) hr (Ev.now _)), fun _ j h h2 => by omega⟩
      simp only [spec_DNOnce.l0]
      rw [if_neg (by omega)]
    | succ d ih =>
      intro i hd hi
      have hlt : i < a.length := by omega
      obtain ⟨r1, hr1, hp1⟩ := ih (i + 1) (by omega) (by omega)
      have tl : (a.take i).length = i := by rw [List.length_take]; omega
      have inner : ∀ e m, i - m = e → m ≤ i → ∃ r, Ev (fun k => spec_DNOnce.l1 k a a[i] a (a.length : Int) (i : Int) (a.take i) (i : Int) (m : Int)) r ∧ (r = true → r1 = true ∧ ∀ q (h : q < i), m ≤ q → rdnEq (a[i].map toAt) (a[q].map toAt) = false) := by
        intro e
        induction e with
        | zero =>
          intro m he hm
          refine ⟨r1, Ev.step (fun k => ?_) hr1, fun e => ⟨e, fun q h h2 => by omega⟩⟩
          simp only [spec_DNOnce.l1]
          rw [if_neg (by omega), wrap_succ i (by omega)]
        | succ e ih2 =>
          intro m he hm
          obtain ⟨r2, hr2, hp2⟩ := ih2 (m + 1) (by omega) (by omega)
          have em : rd_L2 (a.take i) (m : Int) = a[m] := by rw [getL _ _ (by omega)]; simp
          have hq := eqRdn_ev a[i] a[m] (hf.2 _ (List.getElem_mem _)) (hf.2 _ (List.getElem_mem _))
          rw [← rdn_spec _ _ (ho _ (List.getElem_mem _))] at hq
          have hstep : ∀ k, spec_DNOnce.l1 (k + 1) a a[i] a (a.length : Int) (i : Int) (a.take i) (i : Int) (m : Int) = (spec_EqualRDN.f k a[i] a[m]).bind fun t => if t = true then some false else spec_DNOnce.l1 k a a[i] a (a.length : Int) (i : Int) (a.take i) (i : Int) ((m + 1 : Nat) : Int) := by
            intro k
            simp only [spec_DNOnce.l1]
            rw [if_pos (by omega), if_pos (by omega), if_pos (by omega), em, wrap_succ m (by omega)]
          generalize hb : rdnEq (a[i].map toAt) (a[m].map toAt) = b at hq
          cases b with
          | true => exact ⟨false, Ev.step hstep (Ev.bind (f := fun k t => if t = true then some false else spec_DNOnce.l1 k a a[i] a (a.length : Int) (i : Int) (a.take i) (i : Int) ((m + 1 : Nat) : Int)) hq (by simpa using Ev.now false)), fun e => by cases e⟩
          | false =>
            refine ⟨r2, Ev.step hstep (Ev.bind (f := fun k t => if t = true then some false else spec_DNOnce.l1 k a a[i] a (a.length : Int) (i : Int) (a.take i) (i : Int) ((m + 1 : Nat) : Int)) hq (by simpa using hr2)), fun e => ⟨(hp2 e).1, fun q h h2 => ?_⟩⟩
            by_cases hqm : q = m
            · subst hqm; exact hb
            · exact (hp2 e).2 q h (by omega)
      obtain ⟨r, hr, hp⟩ := inner i 0 rfl (Nat.zero_le _)
      refine ⟨r, Ev.step (fun k => ?_) hr, fun e j hj hij m hm => ?_⟩
      · simp only [spec_DNOnce.l0]
        rw [if_pos (by omega), if_pos (by omega), if_pos (by omega), if_pos (by omega), getL a i hlt]
        simp only [Option.bind_some, Int.toNat_natCast, tl]
        rfl
      · obtain ⟨e1, h2⟩ := hp e
        by_cases hji : j = i
        · subst hji; exact h2 m hm (Nat.zero_le _)
        · exact hp1 e1 j hj (by omega) m hm
  obtain ⟨r, h1, h2⟩ := key a.length 0 rfl (Nat.zero_le _)
  refine ⟨r, h1, fun e => ?_⟩
  unfold OnceAll
  rw [List.pairwise_iff_getElem]
  intro m j hm hj hmj
  have hj2 : j < a.length := by simpa [toDn] using hj
  have := h2 e j hj2 (Nat.zero_le _) m hmj
  rw [rdnEq_comm] at this
  simpa [toDn] using this

theorem match_ev (a b : List (List S34)) (ha : FitAll a) (hb : FitAll b) (ho : ∀ r ∈ a, Once (r.map toAt)) (hO : OnceAll (toDn a)) : Ev (fun k => spec_MatchDN.f k a b) (dnMatch (toDn a) (toDn b)) := by
  rw [dnMatch_spec _ _ hO]
  unfold spec_MatchDN.f
  by_cases hl : a.length = b.length
  rotate_left
  · rw [decide_eq_false (by simpa [toDn] using hl), Bool.false_and]
    exact Ev.congr (f := fun _ => some false) (fun k => by rw [if_neg (by omega)]) (Ev.now _)
  rw [decide_eq_true (by simpa [toDn] using hl), Bool.true_and]
  have key : ∀ d i, a.length - i = d → i ≤ a.length → Ev (fun k => spec_MatchDN.l0 k b a (a.length : Int) (i : Int)) ((List.range' i d).all fun i => (List.range' 0 b.length).any fun m => rdnEq ((a.getD i []).map toAt) ((b.getD m []).map toAt)) := by
    intro d
    induction d with
    | zero =>
      intro i hd hi
      refine Ev.step (f := fun _ => some true) (fun k => ?_) (Ev.now _)
      simp only [spec_MatchDN.l0]
      rw [if_neg (by omega)]
    | succ d ih =>
      intro i hd hi
      have hlt : i < a.length := by omega
      have ih1 := ih (i + 1) (by omega) (by omega)
      rw [List.range'_succ, List.all_cons]
      generalize ((List.range' (i + 1) d).all fun i => (List.range' 0 b.length).any fun m => rdnEq ((a.getD i []).map toAt) ((b.getD m []).map toAt)) = r at ih1
      have ei : a.getD i [] = a[i] := by simp [List.getD, hlt]
      rw [ei]
      have inner : ∀ e m, b.length - m = e → m ≤ b.length → ∀ f, Ev (fun k => spec_MatchDN.l1 k b a[i] f a (a.length : Int) (i : Int) b (b.length : Int) (m : Int)) ((f || (List.range' m e).any fun m => rdnEq (a[i].map toAt) ((b.getD m []).map toAt)) && r) := by
        intro e
        induction e with
        | zero =>
          intro m he hm f
          simp only [List.range'_zero, List.any_nil, Bool.or_false]
          cases f with
          | true =>
            refine Ev.step (fun k => ?_) ih1
            simp only [spec_MatchDN.l1]
            rw [if_neg (by omega), if_pos trivial, wrap_succ i (by have := ha.1; omega)]
          | false =>
            refine Ev.step (f := fun _ => some false) (fun k => ?_) (Ev.now _)
            simp only [spec_MatchDN.l1]
            rw [if_neg (by omega), if_neg (by simp)]
        | succ e ih2 =>
          intro m he hm f
          have hml : m < b.length := by omega
          rw [List.range'_succ, List.any_cons]
          have em : b.getD m [] = b[m] := by simp [List.getD, hml]
          rw [em]
          cases f with
          | true =>
            have := ih2 (m + 1) (by omega) (by omega) true
            simp only [Bool.true_or] at this ⊢
            refine Ev.step (fun k => ?_) this
            simp only [spec_MatchDN.l1]
            rw [if_pos (by omega), if_pos (by omega), if_pos (by omega), if_pos trivial, wrap_succ m (by have := hb.1; omega)]
          | false =>
            have hq := eqRdn_ev a[i] b[m] (ha.2 _ (List.getElem_mem _)) (hb.2 _ (List.getElem_mem _))
            rw [← rdn_spec _ _ (ho _ (List.getElem_mem _))] at hq
            simp only [Bool.false_or]
            refine Ev.step (fun k => ?_) (Ev.bind (f := fun k t => spec_MatchDN.l1 k b a[i] t a (a.length : Int) (i : Int) b (b.length : Int) ((m + 1 : Nat) : Int)) hq (ih2 (m + 1) (by omega) (by omega) _))
            simp only [spec_MatchDN.l1]
            rw [if_pos (by omega), if_pos (by omega), if_pos (by omega), if_neg (by simp), getL b m hml, wrap_succ m (by have := hb.1; omega)]
      have h0 := inner b.length 0 rfl (Nat.zero_le _) false
      simp only [Bool.false_or] at h0
      refine Ev.step (fun k => ?_) h0
      simp only [spec_MatchDN.l0]
      rw [if_pos (by omega), if_pos (by omega), if_pos (by omega), getL a i hlt]
      rfl
  have h0 := key a.length 0 rfl (Nat.zero_le _)
  rw [range_all a [] (fun x => (List.range' 0 b.length).any fun m => rdnEq (x.map toAt) ((b.getD m []).map toAt))] at h0
  have e : (toDn a).all (fun x => (toDn b).any fun y => rdnEq x y) = a.all fun x => (List.range' 0 b.length).any fun m => rdnEq (x.map toAt) ((b.getD m []).map toAt) := by
    unfold toDn
    rw [List.all_map]
    congr 1
    funext x
    simp only [Function.comp]
    rw [List.any_map, range_any b [] (fun y => rdnEq (x.map toAt) (y.map toAt))]
    rfl
  rw [e]
  exact Ev.congr (fun k => by rw [if_pos (by omega)]; rfl) h0

theorem match_of_eq (a b : List (List S34)) (hO : OnceAll (toDn a)) (h : dnEq (toDn a) (toDn b) = true) : dnMatch (toDn a) (toDn b) = true := by
  rw [dnMatch_spec _ _ hO]
  obtain ⟨hl, h⟩ := (dnEq_iff _ _).1 h
  simp only [Bool.and_eq_true, decide_eq_true_eq, List.all_eq_true, List.any_eq_true]
  refine ⟨hl, fun x hx => ?_⟩
  obtain ⟨j, hj, rfl⟩ := List.getElem_of_mem hx
  exact ⟨_, List.getElem_mem (by omega), h j hj (by omega)⟩

theorem match_law (a b : List (List S34)) : ∃ k, laws_FnDNMatch.f k a b = some true := by
  have aw : Ev (fun _ : Nat => (laws_awakeDN.f).bind fun t => some t) true := Ev.congr (f := fun _ => some true) (fun k => by rw [awake_ev]; rfl) (Ev.now _)
  have j0t : Ev (fun k => laws_FnDNMatch.j0 k a b true) true := Ev.step (f := fun _ => some true) (fun k => by simp [laws_FnDNMatch.j0]) (Ev.now _)
  have j1t : Ev (fun k => laws_FnDNMatch.j1 k a b true) true := Ev.step (fun k => by simp only [laws_FnDNMatch.j1]; rw [if_pos trivial]) aw
  obtain ⟨z1, hz1, hf1⟩ := fits3 a
  obtain ⟨z2, hz2, hf2⟩ := fits3 b
  have j0f : z1 = true → z2 = true → Ev (fun k => laws_FnDNMatch.j0 k a b false) true := by
    intro ez1 ez2
    have ha := hf1 ez1
    have hb := hf2 ez2
    obtain ⟨n1, hn1, hk1⟩ := names_ev a ha
    obtain ⟨n2, hn2, hk2⟩ := names_ev b hb
    refine Ev.step (fun k => by simp only [laws_FnDNMatch.j0]; rw [if_neg (by simp)]) (Ev.bind (f := fun k t198 => (if t198 = true then ((laws_names.f k b).bind fun t199 => (if t199 = true then ((spec_DNOnce.f k a).bind fun t200 => (if t200 = true then ((spec_DNOnce.f k b).bind fun t201 => (laws_FnDNMatch.j1 k a b (!t201))) else (laws_FnDNMatch.j1 k a b true))) else (laws_FnDNMatch.j1 k a b true))) else (laws_FnDNMatch.j1 k a b true))) hn1 ?_)
    cases n1 with
    | false => simpa using j1t
    | true =>
    have o1 := hk1 rfl
    simp only [if_true]
    refine Ev.bind (f := fun k t199 => (if t199 = true then ((spec_DNOnce.f k a).bind fun t200 => (if t200 = true then ((spec_DNOnce.f k b).bind fun t201 => (laws_FnDNMatch.j1 k a b (!t201))) else (laws_FnDNMatch.j1 k a b true))) else (laws_FnDNMatch.j1 k a b true))) hn2 ?_
    cases n2 with
    | false => simpa using j1t
    | true =>
    have o2 := hk2 rfl
    obtain ⟨r1, hr1, hp1⟩ := once_ev a ha (fun r hr => (o1.2 r hr).2.2)
    obtain ⟨r2, hr2, hp2⟩ := once_ev b hb (fun r hr => (o2.2 r hr).2.2)
    simp only [if_true]
    refine Ev.bind (f := fun k t200 => (if t200 = true then ((spec_DNOnce.f k b).bind fun t201 => (laws_FnDNMatch.j1 k a b (!t201))) else (laws_FnDNMatch.j1 k a b true))) hr1 ?_
    cases r1 with
    | false => simpa using j1t
    | true =>
    simp only [if_true]
    refine Ev.bind (f := fun k t201 => (laws_FnDNMatch.j1 k a b (!t201))) hr2 ?_
    cases r2 with
    | false => exact j1t
    | true =>
    have hO := hp1 rfl
    have q1 : impl_EqualDN.f a b = some (dnEq (toDn a) (toDn b)) := by unfold impl_EqualDN.f; rw [if_pos ⟨o1.small, o2.small⟩]
    have q2 : impl_MatchDN.f a b = some (dnMatch (toDn a) (toDn b)) := by unfold impl_MatchDN.f; rw [if_pos ⟨o1.small, o2.small⟩]
    have sp := match_ev a b ha hb (fun r hr => (o1.2 r hr).2.2) hO
    refine Ev.step (fun k => by simp only [laws_FnDNMatch.j1]; rw [if_neg (by simp), q1, q2]; simp only [Option.bind_some]) (Ev.bind (f := fun k t204 => (if (dnMatch (toDn a) (toDn b) == t204) = true then (if dnEq (toDn a) (toDn b) = true then (if dnMatch (toDn a) (toDn b) = true then ((laws_awakeDN.f).bind fun t207 => (some t207)) else (some false)) else ((laws_awakeDN.f).bind fun t208 => (some t208))) else (some false))) sp ?_)
    rw [if_pos (by simp)]
    cases he : dnEq (toDn a) (toDn b) with
    | true => simpa [match_of_eq a b hO he] using aw
    | false => simpa using aw
  refine Ev.rounds ?_
  unfold laws_FnDNMatch.f
  refine Ev.bind (f := fun k t => if t = true then (laws_zzFits3.f k b).bind fun u => laws_FnDNMatch.j0 k a b (!u) else laws_FnDNMatch.j0 k a b true) hz1 ?_
  cases z1 with
  | false => simpa using j0t
  | true =>
    simp only [if_true]
    refine Ev.bind (f := fun k u => laws_FnDNMatch.j0 k a b (!u)) hz2 ?_
    cases z2 with
    | false => exact j0t
    | true => exact j0f rfl rfl

/-- The walk of FnDNMatch: true; nothing that was is changed. -/
theorem match_walk (A0 : Option Addr) (c0 : Nat) (l0 : List (List S34)) (A1 : Option Addr) (c1 : Nat) (l1 : List (List S34)) (w : World) (hr0 : Kd.C (Kd.slice 34 k34) w A0 l0.length l0) (hc0 : l0.length ≤ c0) (hr1 : Kd.C (Kd.slice 34 k34) w A1 l1.length l1) (hc1 : l1.length ≤ c1) :
    Calls Tryd.prog 6 #[.slice A0 l0.length c0, .slice A1 l1.length c1] w fun e w' => e = .returned (.bool true) ∧ Below w.heap.size w w' := by
  obtain ⟨k, hk⟩ := match_law l0 l1
  exact laws_FnDNMatch.calls k A0 c0 l0 A1 c1 l1 true w hr0 hc0 hr1 hc1 hk
end Go.Proofs.YtdacmcbipnnneaaDoor.PXD
