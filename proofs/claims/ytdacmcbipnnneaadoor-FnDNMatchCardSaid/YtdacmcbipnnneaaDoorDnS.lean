/- What is asked of names; a name is read at all; the plain law FnDNEqual. -/
import Derived.Test.YtdacmcbipnnneaaDoorDnR
import Derived.Test.YtdacmcbipnnneaaDoorPXDx7
namespace Go.Proofs.YtdacmcbipnnneaaDoor.PXD
open Go.RowKit Go.Proofs.YtdacmcbipnnneaaDoorW.PrintWords Go.Proofs.YtdacmcbipnnneaaDoorW.PrintLast
set_option linter.unusedVariables false
set_option linter.unusedSimpArgs false

/-- A name that can be read of memory. -/
def FitAll (a : List (List S34)) : Prop := a.length < 4611686018427387904 ∧ ∀ r ∈ a, Fit r
/-- What 'names' asks, as far as it is used. -/
def NamesOk (a : List (List S34)) : Prop := a.length ≤ 6 ∧ ∀ r ∈ a, (1 ≤ r.length ∧ r.length ≤ 4) ∧ (∀ x ∈ r, x.f0.size ≤ 12 ∧ x.f1.size ≤ 20) ∧ Once (r.map toAt)

theorem fits4 (xs : List S34) : ∃ r, Ev (fun k => laws_zzFits4.f k xs) r ∧ (r = true → Fit xs) := by
  by_cases h : (xs.length : Int) > 2147483647
  · exact ⟨false, Ev.congr (f := fun _ => some false) (fun k => by unfold laws_zzFits4.f; rw [if_pos h]) (Ev.now _), fun e => by cases e⟩
  refine ⟨_, Ev.congr (fun k => by unfold laws_zzFits4.f; rw [if_neg h]; rfl) (ev_all xs.length (fun k i => laws_zzFits4.l0 k xs xs.length i) (fun k i => laws_zzFits5.f (xs.getD i z34).f0 (xs.getD i z34).f1) _ (fun k i hi => ?_) (fun i hi => Ev.congr (fun k => zz5 _ _) (Ev.now _)) xs.length 0 rfl (Nat.zero_le _)), fun e => ⟨by omega, fun x hx => ?_⟩⟩
  · simp only [laws_zzFits4.l0]
    by_cases hlt : i < xs.length
    · rw [if_pos (by omega), if_pos (by omega), if_pos (by omega), if_pos hlt, wrap_succ i (by omega), rd34]
    · rw [if_neg (by omega), if_neg hlt]
  · obtain ⟨j, hj, rfl⟩ := List.getElem_of_mem hx
    have := List.all_eq_true.1 e j (by simp; omega)
    simp only [List.getD, List.getElem?_eq_getElem hj, Option.getD_some, decide_eq_true_eq] at this
    omega

theorem fits3 (xs : List (List S34)) : ∃ r, Ev (fun k => laws_zzFits3.f k xs) r ∧ (r = true → FitAll xs) := by
  by_cases h : (xs.length : Int) > 2147483647
  · exact ⟨false, Ev.congr (f := fun _ => some false) (fun k => by unfold laws_zzFits3.f; rw [if_pos h]) (Ev.now _), fun e => by cases e⟩
  obtain ⟨p, hp, hP⟩ := ev_choose xs.length (fun k i => laws_zzFits4.f k (xs.getD i [])) (fun i => Fit (xs.getD i [])) (fun i hi => fits4 _)
  refine ⟨_, Ev.congr (fun k => by unfold laws_zzFits3.f; rw [if_neg h]; rfl) (ev_all xs.length (fun k i => laws_zzFits3.l0 k xs xs.length i) (fun k i => laws_zzFits4.f k (xs.getD i [])) p (fun k i hi => ?_) hp xs.length 0 rfl (Nat.zero_le _)), fun e => ⟨by omega, fun x hx => ?_⟩⟩
  · simp only [laws_zzFits3.l0]
    by_cases hlt : i < xs.length
    · rw [if_pos (by omega), if_pos (by omega), if_pos (by omega), if_pos hlt, wrap_succ i (by omega), rdL]
    · rw [if_neg (by omega), if_neg hlt]
  · obtain ⟨j, hj, rfl⟩ := List.getElem_of_mem hx
    have := hP j hj (List.all_eq_true.1 e j (by simp; omega))
    simpa only [List.getD, List.getElem?_eq_getElem hj, Option.getD_some] using this

theorem names_ev (a : List (List S34)) (hf : FitAll a) : ∃ r, Ev (fun k => laws_names.f k a) r ∧ (r = true → NamesOk a) := by
  obtain ⟨hn, hr⟩ := hf
  have key : ∀ d i, a.length - i = d → i ≤ a.length → ∃ r, Ev (fun k => laws_names.l0 k a (i : Int)) r ∧ (r = true → a.length ≤ 6 ∧ (∀ row ∈ a, Once (row.map toAt)) ∧ ∀ j (h : j < a.length), i ≤ j → (1 ≤ a[j].length ∧ a[j].length ≤ 4) ∧ ∀ x ∈ a[j], x.f0.size ≤ 12 ∧ x.f1.size ≤ 20) := by
    intro d
    induction d with
    | zero =>
      intro i hd hi
      by_cases h6 : a.length ≤ 6
      · obtain ⟨r, h1, h2⟩ := setKnown_ev a hn hr
        refine ⟨r, Ev.step (f := fun k => (spec_DNSetKnown.f k a).bind fun t => some t) (fun k => ?_) ?_, fun e => ⟨h6, h2 e, fun j h1 h2 => by omega⟩⟩
        · simp only [laws_names.l0]
          rw [if_neg (by omega), if_pos (by omega)]
        · exact Ev.bind (f := fun _ t => some t) h1 (Ev.now _)
      · refine ⟨false, Ev.step (f := fun _ => some false) (fun k => ?_) (Ev.now _), fun e => by cases e⟩
        simp only [laws_names.l0]
        rw [if_neg (by omega), if_neg (by omega)]
    | succ d ih =>
      intro i hd hi
      have hlt : i < a.length := by omega
      obtain ⟨r1, hr1, hp1⟩ := ih (i + 1) (by omega) (by omega)
      have er : rd_L2 a (i : Int) = a[i] := by rw [rdL]; simp [List.getD, hlt]
      have hfi := hr a[i] (List.getElem_mem hlt)
      have inner : ∀ e m, a[i].length - m = e → m ≤ a[i].length → ∃ r, Ev (fun k => laws_names.l1 k a (i : Int) (m : Int)) r ∧ (r = true → r1 = true ∧ ∀ q (h : q < a[i].length), m ≤ q → a[i][q].f0.size ≤ 12 ∧ a[i][q].f1.size ≤ 20) := by
        intro e
        induction e with
        | zero =>
          intro m he hm
          refine ⟨r1, Ev.step (fun k => ?_) hr1, fun e => ⟨e, fun q h1 h2 => by omega⟩⟩
          simp only [laws_names.l1]
          rw [if_pos (by omega), if_pos (by omega), er, if_neg (by omega), wrap_succ i (by omega)]
        | succ e ih2 =>
          intro m he hm
          have hml : m < a[i].length := by omega
          have et : rd_T34 a[i] (m : Int) = a[i][m] := by rw [rd34]; simp [List.getD, hml]
          obtain ⟨r2, hr2, hp2⟩ := ih2 (m + 1) (by omega) (by omega)
          by_cases h12 : a[i][m].f0.size ≤ 12
          · by_cases h20 : a[i][m].f1.size ≤ 20
            · obtain ⟨c, hc⟩ := ascii_ev a[i][m].f0 (by omega)
              have hstep : ∀ k, laws_names.l1 (k + 1) a (i : Int) (m : Int) = (laws_ascii.f k a[i][m].f0).bind fun t => if t = true then laws_names.l1 k a (i : Int) ((m + 1 : Nat) : Int) else some false := by
                intro k
                simp only [laws_names.l1]
                rw [if_pos (by omega), if_pos (by omega), er, if_pos (by omega), if_pos (by omega), et, if_neg (by omega), if_neg (by omega), wrap_succ m (by have := hfi.1; omega)]
              cases c with
              | true =>
                refine ⟨r2, Ev.step hstep (Ev.bind (f := fun k t => if t = true then laws_names.l1 k a (i : Int) ((m + 1 : Nat) : Int) else some false) hc (by simpa using hr2)), fun e => ⟨(hp2 e).1, fun q h1 h2 => ?_⟩⟩
                by_cases hq : q = m
                · subst hq; exact ⟨h12, h20⟩
                · exact (hp2 e).2 q h1 (by omega)
              | false =>
                exact ⟨false, Ev.step hstep (Ev.bind (f := fun k t => if t = true then laws_names.l1 k a (i : Int) ((m + 1 : Nat) : Int) else some false) hc (by simpa using Ev.now false)), fun e => by cases e⟩
            · refine ⟨false, Ev.step (f := fun _ => some false) (fun k => ?_) (Ev.now _), fun e => by cases e⟩
              simp only [laws_names.l1]
              rw [if_pos (by omega), if_pos (by omega), er, if_pos (by omega), if_pos (by omega), et, if_neg (by omega), if_pos (by omega)]
          · refine ⟨false, Ev.step (f := fun _ => some false) (fun k => ?_) (Ev.now _), fun e => by cases e⟩
            simp only [laws_names.l1]
            rw [if_pos (by omega), if_pos (by omega), er, if_pos (by omega), if_pos (by omega), et, if_pos (by omega)]
      obtain ⟨r2, hr2, hp2⟩ := inner a[i].length 0 rfl (Nat.zero_le _)
      have hj : ∀ b, ∃ r, Ev (fun k => laws_names.j1 k a (i : Int) b) r ∧ (r = true → b = false ∧ r2 = true) := by
        intro b
        cases b with
        | true => exact ⟨false, Ev.step (f := fun _ => some false) (fun k => by simp [laws_names.j1]) (Ev.now _), fun e => by cases e⟩
        | false => exact ⟨r2, Ev.step (fun k => by simp [laws_names.j1]) hr2, fun e => ⟨rfl, e⟩⟩
      have fin : ∀ r : Bool, (r = true → r2 = true ∧ 1 ≤ a[i].length ∧ a[i].length ≤ 4) → (r = true → a.length ≤ 6 ∧ (∀ row ∈ a, Once (row.map toAt)) ∧ ∀ j (h : j < a.length), i ≤ j → (1 ≤ a[j].length ∧ a[j].length ≤ 4) ∧ ∀ x ∈ a[j], x.f0.size ≤ 12 ∧ x.f1.size ≤ 20) := by
        intro r hr e
        obtain ⟨e2, l1, l4⟩ := hr e
        obtain ⟨e1, hq⟩ := hp2 e2
        obtain ⟨h6, ho, hrest⟩ := hp1 e1
        refine ⟨h6, ho, fun j hj hij => ?_⟩
        by_cases hji : j = i
        · subst hji
          refine ⟨⟨l1, l4⟩, fun x hx => ?_⟩
          obtain ⟨q, hq2, rfl⟩ := List.getElem_of_mem hx
          exact hq q hq2 (Nat.zero_le _)
        · exact hrest j hj (by omega)
      by_cases h1 : a[i].length < 1
      · obtain ⟨r, h2, h3⟩ := hj true
        refine ⟨r, Ev.step (fun k => ?_) h2, fin r fun e => by have := (h3 e).1; cases this⟩
        simp only [laws_names.l0]
        rw [if_pos (by omega), if_pos (by omega), er, if_pos (by omega)]
      · obtain ⟨r, h2, h3⟩ := hj (decide ((a[i].length : Int) > 4))
        refine ⟨r, Ev.step (fun k => ?_) h2, fin r fun e => ⟨(h3 e).2, by omega, by have := (h3 e).1; simp at this; omega⟩⟩
        simp only [laws_names.l0]
        rw [if_pos (by omega), if_pos (by omega), er, if_neg (by omega)]
  obtain ⟨r, h1, h2⟩ := key a.length 0 rfl (Nat.zero_le _)
  refine ⟨r, h1, fun e => ?_⟩
  obtain ⟨h6, ho, hx⟩ := h2 e
  refine ⟨h6, fun row hrow => ?_⟩
  obtain ⟨j, hj, rfl⟩ := List.getElem_of_mem hrow
  exact ⟨(hx j hj (Nat.zero_le _)).1, (hx j hj (Nat.zero_le _)).2, ho _ (List.getElem_mem hj)⟩

theorem NamesOk.small {a : List (List S34)} (h : NamesOk a) : Small (toDn a) := by
  refine ⟨by simp [toDn]; have := h.1; omega, fun xs hxs => ?_⟩
  obtain ⟨r, hr, rfl⟩ := List.mem_map.1 hxs
  have := h.2 r hr
  refine ⟨by simp; omega, fun x hx => ?_⟩
  obtain ⟨y, hy, rfl⟩ := List.mem_map.1 hx
  have := this.2.1 y hy
  simp [toAt]; omega
theorem NamesOk.row {a : List (List S34)} (h : NamesOk a) {r : List S34} (hr : r ∈ a) : SmallR (r.map toAt) := by
  have := h.2 r hr
  refine ⟨by simp; omega, fun x hx => ?_⟩
  obtain ⟨y, hy, rfl⟩ := List.mem_map.1 hx
  have := this.2.1 y hy
  simp [toAt]; omega

theorem strOf_size (l : List UInt8) : (strOf l).size = l.length := by simp [strOf, ByteArray.size]

/-- "cn=a,dc=b". -/
def cnTxt : ByteArray := ⟨#[99, 110, 61, 97, 44, 100, 99, 61, 98]⟩
def cnDn : List (List At) := [[(⟨#[99, 110]⟩, ⟨#[97]⟩)], [(⟨#[100, 99]⟩, ⟨#[98]⟩)]]
theorem cn_good : Good cnTxt cnDn := by
  refine ⟨?_, by decide, by decide, by decide⟩
  have e0 : b8 cnTxt 0 = 99 := by decide
  have e1 : b8 cnTxt 1 = 110 := by decide
  have e2 : b8 cnTxt 2 = 61 := by decide
  have e3 : b8 cnTxt 3 = 97 := by decide
  have e4 : b8 cnTxt 4 = 44 := by decide
  have e5 : b8 cnTxt 5 = 100 := by decide
  have e6 : b8 cnTxt 6 = 99 := by decide
  have e7 : b8 cnTxt 7 = 61 := by decide
  have e8 : b8 cnTxt 8 = 98 := by decide
  refine Parses.other 0 _ (by decide) rfl (by omega) (by omega) (by omega) (by omega) (by omega) ?_
  refine Parses.other 1 _ (by decide) rfl (by omega) (by omega) (by omega) (by omega) (by omega) ?_
  refine Parses.eq 2 _ (by decide) rfl (by omega) (fun _ => by decide) ?_
  refine Parses.other 3 _ (by decide) rfl (by omega) (by omega) (by omega) (by omega) (by omega) ?_
  refine Parses.comma 4 _ (by decide) rfl (by omega) (by simp [PS.text, strOf_size, PS.start, e0, e1]) ?_
  refine Parses.other 5 _ (by decide) rfl (by omega) (by omega) (by omega) (by omega) (by omega) ?_
  refine Parses.other 6 _ (by decide) rfl (by omega) (by omega) (by omega) (by omega) (by omega) ?_
  refine Parses.eq 7 _ (by decide) rfl (by omega) (fun _ => by decide) ?_
  refine Parses.other 8 _ (by decide) rfl (by omega) (by omega) (by omega) (by omega) (by omega) ?_
  refine Parses.last 9 _ (by decide) (by simp) (by simp [PS.text, strOf_size, PS.start, e5, e6]) ?_
  simp only [PS.text, PS.start, strOf, e0, e1, e3, e5, e6, e8]
  rfl

theorem awake_ev : laws_awakeDN.f = some true := by
  unfold laws_awakeDN.f
  rw [show (⟨#[99, 110, 61, 97, 44, 100, 99, 61, 98]⟩ : ByteArray) = cnTxt from rfl, parse_good cn_good]
  have s2 : Small (toDn (fromDn cnDn)) := by rw [to_from]; decide
  have s1 : Small (toDn ((fromDn cnDn).take 1)) := by decide
  have q1 : impl_EqualDN.f (fromDn cnDn) (fromDn cnDn) = some true := by
    unfold impl_EqualDN.f
    rw [if_pos ⟨s2, s2⟩]
    congr 1
    exact (dnEq_iff _ _).2 ⟨rfl, fun j _ _ => rdnEq_refl _⟩
  have q2 : impl_EqualDN.f (fromDn cnDn) ((fromDn cnDn).take 1) = some false := by
    unfold impl_EqualDN.f
    rw [if_pos ⟨s2, s1⟩]
    rfl
  simp only [Option.bind_some]
  rw [q1, q2]
  have t1 : (⟨#[99, 110]⟩ : ByteArray).toList = [99, 110] := by rw [ByteArray.toList_eq]
  have t2 : (⟨#[98]⟩ : ByteArray).toList = [98] := by rw [ByteArray.toList_eq]
  simp [fromDn, cnDn, rd_L2, rd_T34, fromAt, t1, t2]

theorem equal_law (a b : List (List S34)) : ∃ k, laws_FnDNEqual.f k a b = some true := by
  have aw : ∀ b : Bool, Ev (fun _ : Nat => (laws_awakeDN.f).bind fun t => some t) true := fun _ => Ev.congr (f := fun _ => some true) (fun k => by rw [awake_ev]; rfl) (Ev.now _)
  have j0t : ∀ x : Bool, x = true → Ev (fun k => laws_FnDNEqual.j0 k a b x) true := fun x hx => Ev.step (f := fun _ => some true) (fun k => by simp [laws_FnDNEqual.j0, hx]) (Ev.now _)
  have j1t : Ev (fun k => laws_FnDNEqual.j1 k a b true) true := Ev.step (fun k => by simp only [laws_FnDNEqual.j1]; rw [if_pos trivial]) (aw true)
  obtain ⟨z1, hz1, hf1⟩ := fits3 a
  obtain ⟨z2, hz2, hf2⟩ := fits3 b
  have j0a : z1 = true → z2 = true → ∀ x, Ev (fun k => laws_FnDNEqual.j0 k a b x) true := by
    intro ez1 ez2
    have ha := hf1 ez1
    have hb := hf2 ez2
    obtain ⟨n1, hn1, hk1⟩ := names_ev a ha
    obtain ⟨n2, hn2, hk2⟩ := names_ev b hb
    have j1f : n1 = true → n2 = true → Ev (fun k => laws_FnDNEqual.j1 k a b false) true := by
      intro e1 e2
      have o1 := hk1 e1
      have o2 := hk2 e2
      have q1 : impl_EqualDN.f a b = some (dnEq (toDn a) (toDn b)) := by unfold impl_EqualDN.f; rw [if_pos ⟨o1.small, o2.small⟩]
      have q2 : impl_EqualDN.f b a = some (dnEq (toDn a) (toDn b)) := by unfold impl_EqualDN.f; rw [if_pos ⟨o2.small, o1.small⟩, dnEq_comm]
      have sp := eqDn_ev a b ha.1 ha.2 hb.2 (fun r hr => (o1.2 r hr).2.2)
      have j2 : Ev (fun k => laws_FnDNEqual.j2 k a b false) true := by
        by_cases l0 : a.length = 0
        · exact Ev.step (fun k => by simp only [laws_FnDNEqual.j2]; rw [if_neg (by simp), if_pos (by omega)]) (aw true)
        by_cases l1 : b.length = 0
        · exact Ev.step (fun k => by simp only [laws_FnDNEqual.j2]; rw [if_neg (by simp), if_neg (by omega), if_pos (by omega)]) (aw true)
        have ea : rd_L2 a 0 = a[0] := by have := rdL a 0; rw [show ((0 : Nat) : Int) = 0 from rfl] at this; rw [this]; simp [List.getD, show 0 < a.length by omega]
        have eb : rd_L2 b 0 = b[0] := by have := rdL b 0; rw [show ((0 : Nat) : Int) = 0 from rfl] at this; rw [this]; simp [List.getD, show 0 < b.length by omega]
        have ma := List.getElem_mem (show 0 < a.length by omega)
        have mb := List.getElem_mem (show 0 < b.length by omega)
        have r1 : impl_EqualRDN.f a[0] b[0] = some (rdnEq (a[0].map toAt) (b[0].map toAt)) := by unfold impl_EqualRDN.f; rw [if_pos ⟨o1.row ma, o2.row mb⟩]
        have r2 := eqRdn_ev a[0] b[0] (ha.2 _ ma) (hb.2 _ mb)
        rw [← rdn_spec _ _ (o1.2 _ ma).2.2] at r2
        refine Ev.step (f := fun k => (spec_EqualRDN.f k a[0] b[0]).bind fun t => if (rdnEq (a[0].map toAt) (b[0].map toAt) == t) = true then (laws_awakeDN.f).bind fun t => some t else some false) (fun k => ?_) ?_
        · simp only [laws_FnDNEqual.j2]
          rw [if_neg (by simp), if_neg (by omega), if_neg (by omega), if_pos (by omega), if_pos (by omega), ea, eb, r1]
          rfl
        · refine Ev.bind (f := fun k t => if (rdnEq (a[0].map toAt) (b[0].map toAt) == t) = true then (laws_awakeDN.f).bind fun t => some t else some false) r2 ?_
          simpa using aw true
      refine Ev.step (f := fun k => (spec_EqualDN.f k a b).bind fun t => if (dnEq (toDn a) (toDn b) != t) = true then laws_FnDNEqual.j2 k a b true else laws_FnDNEqual.j2 k a b false) (fun k => ?_) ?_
      · simp only [laws_FnDNEqual.j1]
        rw [if_neg (by simp), q1, q2]
        simp only [Option.bind_some, bne_self_eq_false]
      · refine Ev.bind (f := fun k t => if (dnEq (toDn a) (toDn b) != t) = true then laws_FnDNEqual.j2 k a b true else laws_FnDNEqual.j2 k a b false) sp ?_
        simpa using j2
    have j0f : Ev (fun k => laws_FnDNEqual.j0 k a b false) true := by
      refine Ev.step (f := fun k => (laws_names.f k a).bind fun t => if t = true then (laws_names.f k b).bind fun u => laws_FnDNEqual.j1 k a b (!u) else laws_FnDNEqual.j1 k a b true) (fun k => by simp only [laws_FnDNEqual.j0]; rw [if_neg (by simp)]) ?_
      refine Ev.bind (f := fun k t => if t = true then (laws_names.f k b).bind fun u => laws_FnDNEqual.j1 k a b (!u) else laws_FnDNEqual.j1 k a b true) hn1 ?_
      cases n1 with
      | false => simpa using j1t
      | true =>
        simp only [if_true]
        refine Ev.bind (f := fun k u => laws_FnDNEqual.j1 k a b (!u)) hn2 ?_
        cases n2 with
        | false => exact j1t
        | true => exact j1f rfl rfl
    exact fun x => by cases x with | true => exact j0t true rfl | false => exact j0f
  refine Ev.rounds ?_
  unfold laws_FnDNEqual.f
  refine Ev.bind (f := fun k t => if t = true then (laws_zzFits3.f k b).bind fun u => laws_FnDNEqual.j0 k a b (!u) else laws_FnDNEqual.j0 k a b true) hz1 ?_
  cases z1 with
  | false => simpa using j0t true rfl
  | true =>
    simp only [if_true]
    refine Ev.bind (f := fun k u => laws_FnDNEqual.j0 k a b (!u)) hz2 ?_
    cases z2 with
    | false => exact j0t _ rfl
    | true => exact j0a rfl rfl _

/-- The walk of FnDNEqual: true; nothing that was is changed. -/
theorem equal_walk (A0 : Option Addr) (c0 : Nat) (l0 : List (List S34)) (A1 : Option Addr) (c1 : Nat) (l1 : List (List S34)) (w : World) (hr0 : Kd.C (Kd.slice 34 k34) w A0 l0.length l0) (hc0 : l0.length ≤ c0) (hr1 : Kd.C (Kd.slice 34 k34) w A1 l1.length l1) (hc1 : l1.length ≤ c1) :
    Calls Tryd.prog 4 #[.slice A0 l0.length c0, .slice A1 l1.length c1] w fun e w' => e = .returned (.bool true) ∧ Below w.heap.size w w' := by
  obtain ⟨k, hk⟩ := equal_law l0 l1
  exact laws_FnDNEqual.calls k A0 c0 l0 A1 c1 l1 true w hr0 hc0 hr1 hc1 hk
end Go.Proofs.YtdacmcbipnnneaaDoor.PXD
