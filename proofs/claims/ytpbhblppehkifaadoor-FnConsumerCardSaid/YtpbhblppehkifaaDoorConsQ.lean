/- What the reference says of a script, and that the store says the same. -/
import Derived.Test.YtpbhblppehkifaaDoorSpH
import Derived.Test.YtpbhblppehkifaaDoorPairW
namespace Go.Proofs.YtpbhblppehkifaaDoor
open Go Con
set_option linter.unusedVariables false

def sDel (ack : Int) (k : Kp) (d : Dd) : Kp × Bool :=
  if ack = 0 then (if d.t = 1 then ((if k.fc < d.c then ⟨d.c, d.s, d.c, d.s, k.ws, k.rs⟩ else k), true) else (k, false))
  else if d.c ≤ k.fc then (k, true)
  else (⟨mxI k.dc d.c, mxI k.ds d.s, k.fc, k.fs,
    (if (getL d.s k.ws).isSome = true ∨ k.ds < d.s then wth (·.1) (d.s, ((getL d.s k.ws).map (·.1)).getD d.c, d.at_) false k.ws else k.ws),
    (if 1 < d.t then wth (·.1) (d.s, mxI (IntKind.u64.wrap (d.t - 1)) ((getL d.s k.rs).getD 0)) false k.rs else k.rs)⟩, true)
def sFl (k : Kp) (d : Dd) (V : List (Int × Int × Int)) : Int × Int :=
  if V = [] then (k.dc, k.ds) else if d.c = IntKind.u64.wrap (k.fc + 1) then (match V.filter (fun p => decide (d.s < p.1)) with | [] => (d.c, d.s) | x :: _ => (IntKind.u64.wrap (x.2.1 - 1), IntKind.u64.wrap (x.1 - 1))) else (k.fc, k.fs)
def sAck (ack : Int) (k : Kp) (d : Dd) : Kp × Bool :=
  if ack = 0 then (k, false)
  else if d.c ≤ k.fc then (k, true)
  else if getL d.s k.ws = none then (⟨k.dc, k.ds, k.fc, k.fs, k.ws, delL d.s k.rs⟩, false)
  else if ack = 1 then (⟨k.dc, k.ds, d.c, d.s, k.ws.filter (fun p => decide (d.s < p.1)), k.rs.filter (fun p => decide (d.s < p.1))⟩, true)
  else (⟨k.dc, k.ds, (sFl k d (k.ws.eraseP (fun p => p.1 == d.s))).1, (sFl k d (k.ws.eraseP (fun p => p.1 == d.s))).2, k.ws.eraseP (fun p => p.1 == d.s), delL d.s k.rs⟩, true)
/-- The reference's state behind a deed, and whether it was taken. -/
def sDid (ack : Int) (k : Kp) (d : Dd) : Kp × Bool :=
  if d.op = 0 then sDel ack k d else if d.op = 1 then sAck ack k d
  else if d.op = 2 then (⟨k.dc, d.s, k.fc, d.s, k.ws, k.rs⟩, true)
  else if d.op = 3 then (if d.k.dc < d.k.fc ∨ d.k.ds < d.k.fs ∨ d.k.dc < k.dc ∨ d.k.fs < k.fs then (k, false) else (d.k, true))
  else if d.op = 4 then (⟨k.dc, k.ds, k.fc, k.fs, k.ws, (if 0 < d.s then k.rs.filter (fun p => decide (IntKind.u64.wrap (d.s - 1) < p.1)) else k.rs)⟩, true)
  else if d.op = 5 then (⟨0, d.s, 0, d.s, [], []⟩, true) else (k, false)
inductive Ts (ack : Int) : List Dd → List Bool → List Kp → Kp → Prop
  | nil : Ts ack [] [] [] kp0
  | snoc {ds : List Dd} {oks : List Bool} {ks : List Kp} {k k' : Kp} {d : Dd} {ok : Bool} (h : Ts ack ds oks ks k) (hs : sDid ack k d = (k', ok)) : Ts ack (ds ++ [d]) (oks ++ [ok]) (ks ++ [k']) k'
theorem Ts.len {ack : Int} {ds : List Dd} {oks : List Bool} {ks : List Kp} {k : Kp} (h : Ts ack ds oks ks k) : oks.length = ds.length ∧ ks.length = ds.length := by
  induction h with
  | nil => exact ⟨rfl, rfl⟩
  | snoc h _ ih => simp [ih.1, ih.2]
theorem Ts.last {ack : Int} {ds : List Dd} {d : Dd} {oks : List Bool} {ks : List Kp} {k : Kp} (h : Ts ack (ds ++ [d]) oks ks k) :
    ∃ oks0 ks0 k0 ok, oks = oks0 ++ [ok] ∧ ks = ks0 ++ [k] ∧ Ts ack ds oks0 ks0 k0 ∧ sDid ack k0 d = (k, ok) := by
  generalize e : ds ++ [d] = l at h
  cases h with
  | nil => simp at e
  | snoc h hs =>
    obtain ⟨rfl, e2⟩ := List.append_inj' e rfl
    simp only [List.cons.injEq, and_true] at e2
    subst e2
    exact ⟨_, _, _, _, rfl, rfl, h, hs⟩
theorem Ts.none {ack : Int} {oks : List Bool} {ks : List Kp} {k : Kp} (h : Ts ack [] oks ks k) : oks = [] ∧ ks = [] ∧ k = kp0 := by
  generalize e : ([] : List Dd) = l at h
  cases h with
  | nil => exact ⟨rfl, rfl, rfl⟩
  | snoc h hs => simp at e
/-- The state ahead of a deed. -/
def stB (ks : List Kp) (i : Nat) : Kp := if i = 0 then kp0 else ks.getD (i - 1) kp0
theorem stB_app {ks : List Kp} {k : Kp} {i : Nat} (h : i ≤ ks.length) : stB (ks ++ [k]) i = stB ks i := by
  unfold stB
  by_cases h0 : i = 0
  · rw [if_pos h0, if_pos h0]
  · rw [if_neg h0, if_neg h0, List.getD_eq_getElem?_getD, List.getD_eq_getElem?_getD, List.getElem?_append_left (by omega)]
theorem Ts.fin {ack : Int} {ds : List Dd} {oks : List Bool} {ks : List Kp} {k : Kp} (h : Ts ack ds oks ks k) : stB ks ds.length = k := by
  cases h with
  | nil => rfl
  | @snoc ds oks ks k k' d ok h hs =>
    have := h.len.2
    unfold stB
    rw [if_neg (by simp), List.getD_eq_getElem?_getD, List.getElem?_append_right (by simp; omega)]
    simp [this]

/-- What is fair. -/
def FairP (ack : Int) (k : Kp) (d : Dd) : Prop :=
  (d.op = 0 → k.dc < d.c ∧ (k.ds < d.s ∨ ((∃ e ∈ k.ws, e.1 = d.s) ∧ ack ≠ 0))) ∧ (d.op = 1 → (∀ e ∈ k.ws, e.1 ≠ d.s) ∨ ∃ e ∈ k.ws, e.1 = d.s ∧ e.2.1 = d.c) ∧ (d.op = 2 → k.ws = [])
/-- What a state is that can be. -/
structure Inv (k : Kp) : Prop where
  sW : Srt k.ws
  sC : ∀ a ∈ k.ws, ∀ b ∈ k.ws, a.1 < b.1 → a.2.1 < b.2.1
  sR : Srt k.rs
  h1 : k.fc ≤ k.dc
  h2 : k.fs ≤ k.ds
  hW : ∀ p ∈ k.ws, k.fs < p.1 ∧ p.1 ≤ k.ds ∧ k.fc < p.2.1 ∧ p.2.1 ≤ k.dc
  hR : ∀ p ∈ k.rs, ∃ e ∈ k.ws, e.1 = p.1
  hT : ∀ p ∈ k.rs, 1 ≤ p.2
  n0 : k.dc ≤ 65536
  n1 : k.ds ≤ 65536
  n2 : 0 ≤ k.fc
  n3 : 0 ≤ k.fs

theorem putL_same {β : Type} {s : Int} {v : β} {R : List (Int × β)} (hs : Srt R) (h : getL s R = some v) : putL s v R = R := by
  refine Srt.ext hs.put hs fun p => ?_
  rw [mem_putL]
  constructor
  · rintro (rfl | ⟨h1, _⟩)
    · exact getL_mem h
    · exact h1
  · intro hp
    by_cases he : p.1 = s
    · left
      have h3 := hs.get (k := p.1) (v := p.2) hp
      rw [he, h] at h3
      obtain ⟨p1, p2⟩ := p
      cases h3
      exact Prod.ext he rfl
    · exact Or.inr ⟨hp, he⟩
theorem delL_none {β : Type} {s : Int} {R : List (Int × β)} (h : ∀ p ∈ R, p.1 ≠ s) : delL s R = R := by
  unfold delL
  exact List.filter_eq_self.2 fun p hp => by simp [h p hp]
theorem eraseP_del {β : Type} {s : Int} : ∀ {l : List (Int × β)}, Srt l → l.eraseP (fun p => p.1 == s) = delL s l
  | [], _ => rfl
  | y :: l, h => by
    have h' := List.pairwise_cons.1 h
    by_cases hy : y.1 = s
    · rw [List.eraseP_cons_of_pos (by simp [hy])]
      have e : delL s (y :: l) = delL s l := by simp [delL, hy]
      rw [e, delL_none]
      intro p hp
      have := h'.1 p hp
      omega
    · rw [List.eraseP_cons_of_neg (by simp [hy]), eraseP_del h'.2]
      simp [delL, hy]
theorem wrap_lo {x : Int} (h0 : 0 ≤ x) (h1 : x ≤ 65536) : IntKind.u64.wrap x = x := wrap_u64 h0 (by omega)

theorem step_del {ack : Int} {k k' : Kp} {d : Dd} {ok : Bool} (h : ack = 0 ∨ Inv k) (hf : k.dc < d.c ∧ (k.ds < d.s ∨ ((∃ e ∈ k.ws, e.1 = d.s) ∧ ack ≠ 0))) (hp : PairOk d) (h0 : d.op = 0) (hr : RgD d) (hs : DelR ack k d.c d.s d.t d.at_ k' ok) :
    sDel ack k d = (k', ok) ∧ (ack = 0 ∨ Inv k') := by
  obtain ⟨⟨p1, p2, p3, p4, p5⟩, ⟨p6, p7, p8⟩, _⟩ := hp
  obtain ⟨q1, q2, q3⟩ := p8 h0
  obtain ⟨f1, f2⟩ := hf
  by_cases ha : ack = 0
  · subst ha
    refine ⟨?_, Or.inl rfl⟩
    unfold DelR at hs
    rw [if_pos rfl] at hs
    obtain ⟨rfl, rfl⟩ := hs
    have f3 : k.ds < d.s := f2.elim id (fun h => absurd rfl h.2)
    unfold sDel okT
    rw [if_pos rfl]
    by_cases ht : d.t = 1
    · rw [if_pos ht, decide_eq_true ht]
      by_cases hc : k.fc < d.c
      · rw [if_pos hc, if_pos ⟨ht, hc⟩]
        simp only [if_pos f1, if_pos f3]
      · rw [if_neg hc, if_neg (fun h => hc h.2)]
    · rw [if_neg ht, decide_eq_false ht, if_neg (fun h => ht h.1)]
  · have hI : Inv k := h.resolve_left ha
    unfold DelR at hs
    rw [if_neg ha] at hs
    have hc : ¬ d.c ≤ k.fc := by have := hI.h1; omega
    rw [if_neg hc] at hs
    obtain ⟨rfl, rfl⟩ := hs
    -- what waits
    have hws : ∃ c', wsD k.ds d.c d.s d.at_ k.ws = putL d.s (c', d.at_) k.ws ∧ ((getL d.s k.ws).isSome = true ∨ k.ds < d.s) ∧ ((getL d.s k.ws).map (·.1)).getD d.c = c' ∧ (((∃ t, (d.s, c', t) ∈ k.ws)) ∨ (k.ds < d.s ∧ c' = d.c)) := by
      unfold wsD
      cases hg : getL d.s k.ws with
      | some p =>
        have hm := getL_mem hg
        have := (hI.hW _ hm).2.1
        rw [if_pos this]
        exact ⟨p.1, rfl, Or.inl rfl, rfl, Or.inl ⟨p.2, hm⟩⟩
      | none =>
        have f3 : k.ds < d.s := by
          rcases f2 with f2 | ⟨⟨e, he, h2⟩, _⟩
          · exact f2
          · exact absurd h2 (getL_none hg e he)
        rw [if_neg (by omega)]
        exact ⟨d.c, rfl, Or.inr f3, rfl, Or.inr ⟨f3, rfl⟩⟩
    obtain ⟨c', e1, e2, e3, e4⟩ := hws
    have hrs : (if 1 < d.t then wth (·.1) (d.s, mxI (IntKind.u64.wrap (d.t - 1)) ((getL d.s k.rs).getD 0)) false k.rs else k.rs) = rsD d.s d.t k.rs := by
      unfold rsD
      by_cases ht : 1 < d.t
      · rw [if_pos ht, wth_put _ _ hI.sR, wrap_lo (by omega) (by omega)]
        by_cases hg : (getL d.s k.rs).getD 0 < d.t - 1
        · rw [if_pos ⟨ht, hg⟩]
          unfold mxI
          rw [if_neg (by omega)]
        · rw [if_neg (fun h => hg h.2)]
          cases hq : getL d.s k.rs with
          | none => rw [hq] at hg; simp at hg; omega
          | some g =>
            rw [hq] at hg
            simp at hg
            have : mxI (d.t - 1) ((some g).getD 0) = g := by
              unfold mxI
              simp
              omega
            rw [this]
            exact putL_same hI.sR hq
      · rw [if_neg ht, if_neg (fun h => ht h.1)]
    refine ⟨?_, Or.inr ?_⟩
    · unfold sDel
      rw [if_neg ha, if_neg hc, if_pos e2, e3, wth_put _ _ hI.sW, hrs, e1]
    · rw [e1]
      have m1 : mxI k.dc d.c = d.c := by unfold mxI; rw [if_pos f1]
      have m2 : k.ds ≤ mxI k.ds d.s ∧ d.s ≤ mxI k.ds d.s ∧ mxI k.ds d.s ≤ 65536 := by
        unfold mxI
        have := hI.n1
        split <;> omega
      have hin : ∀ p ∈ rsD d.s d.t k.rs, (p.1 = d.s ∧ 1 ≤ p.2) ∨ p ∈ k.rs := by
        intro p hp
        unfold rsD at hp
        split at hp
        · rename_i ht
          rcases mem_putL.1 hp with rfl | h
          · left; exact ⟨rfl, by show 1 ≤ d.t - 1; omega⟩
          · exact Or.inr h.1
        · exact Or.inr hp
      have hc' : k.fc < c' ∧ c' ≤ d.c := by
        rcases e4 with ⟨t, ht⟩ | ⟨_, rfl⟩
        · have := hI.hW _ ht
          exact ⟨this.2.2.1, by have h6 : c' ≤ k.dc := this.2.2.2; omega⟩
        · omega
      have hs' : k.fs < d.s := by
        rcases e4 with ⟨t, ht⟩ | ⟨h, _⟩
        · exact (hI.hW _ ht).1
        · have := hI.h2; omega
      exact {
        sW := hI.sW.put
        sC := fun a ha b hb hab => by
          rcases mem_putL.1 ha with rfl | ⟨ha, ha'⟩ <;> rcases mem_putL.1 hb with rfl | ⟨hb, hb'⟩
          · exact absurd hab (by show ¬ d.s < d.s; omega)
          · rcases e4 with ⟨t, ht⟩ | ⟨h3, _⟩
            · exact (show c' < b.2.1 from hI.sC (d.s, c', t) ht b hb hab)
            · have := (hI.hW b hb).2.1
              have hab' : d.s < b.1 := hab
              omega
          · rcases e4 with ⟨t, ht⟩ | ⟨h3, h4⟩
            · exact (show a.2.1 < c' from hI.sC a ha (d.s, c', t) ht hab)
            · have := (hI.hW a ha).2.2.2
              show a.2.1 < c'
              omega
          · exact hI.sC a ha b hb hab
        sR := by
          unfold rsD
          split
          · exact hI.sR.put
          · exact hI.sR
        h1 := by show k.fc ≤ mxI k.dc d.c; rw [m1]; omega
        h2 := by show k.fs ≤ mxI k.ds d.s; have := hI.h2; omega
        hW := fun p hp => by
          show k.fs < p.1 ∧ p.1 ≤ mxI k.ds d.s ∧ k.fc < p.2.1 ∧ p.2.1 ≤ mxI k.dc d.c
          rw [m1]
          rcases mem_putL.1 hp with rfl | ⟨hp, _⟩
          · exact ⟨hs', m2.2.1, hc'.1, hc'.2⟩
          · have := hI.hW p hp
            omega
        hR := fun p hp => by
          rcases hin p hp with ⟨h3, _⟩ | h3
          · exact ⟨_, mem_putL.2 (Or.inl rfl), h3.symm⟩
          · obtain ⟨e, he, h4⟩ := hI.hR p h3
            by_cases h5 : e.1 = d.s
            · exact ⟨_, mem_putL.2 (Or.inl rfl), by show d.s = p.1; omega⟩
            · exact ⟨e, mem_putL.2 (Or.inr ⟨he, h5⟩), h4⟩
        hT := fun p hp => by
          rcases hin p hp with ⟨_, h3⟩ | h3
          · exact h3
          · exact hI.hT p h3
        n0 := by show mxI k.dc d.c ≤ 65536; rw [m1]; omega
        n1 := m2.2.2
        n2 := hI.n2
        n3 := hI.n3 }

/-- Fewer of both. -/
theorem Inv.less {k : Kp} (hI : Inv k) {fc fs : Int} {ws : List (Int × Int × Int)} {rs : List (Int × Int)} (hw : ws.Sublist k.ws) (hr : rs.Sublist k.rs) (h1 : fc ≤ k.dc) (h2 : fs ≤ k.ds) (n2 : 0 ≤ fc) (n3 : 0 ≤ fs)
    (hW : ∀ p ∈ ws, fs < p.1 ∧ fc < p.2.1) (hR : ∀ p ∈ rs, ∃ e ∈ ws, e.1 = p.1) : Inv ⟨k.dc, k.ds, fc, fs, ws, rs⟩ where
  sW := List.Pairwise.sublist hw hI.sW
  sC := fun a ha b hb => hI.sC a (hw.subset ha) b (hw.subset hb)
  sR := List.Pairwise.sublist hr hI.sR
  h1 := h1
  h2 := h2
  hW := fun p hp => ⟨(hW p hp).1, (hI.hW p (hw.subset hp)).2.1, (hW p hp).2, (hI.hW p (hw.subset hp)).2.2.2⟩
  hR := hR
  hT := fun p hp => hI.hT p (hr.subset hp)
  n0 := hI.n0
  n1 := hI.n1
  n2 := n2
  n3 := n3

theorem step_ack {ack : Int} {k k' : Kp} {d : Dd} {ok : Bool} (h : ack = 0 ∨ Inv k) (hf : (∀ e ∈ k.ws, e.1 ≠ d.s) ∨ ∃ e ∈ k.ws, e.1 = d.s ∧ e.2.1 = d.c) (hr : RgD d) (hs : AckR ack k d.c d.s k' ok) :
    sAck ack k d = (k', ok) ∧ (ack = 0 ∨ Inv k') := by
  by_cases ha : ack = 0
  · subst ha
    unfold AckR at hs
    rw [if_pos rfl] at hs
    obtain ⟨rfl, rfl⟩ := hs
    exact ⟨by unfold sAck; rw [if_pos rfl], Or.inl rfl⟩
  have hI : Inv k := h.resolve_left ha
  unfold AckR at hs
  rw [if_neg ha] at hs
  unfold sAck
  rw [if_neg ha]
  by_cases hc : d.c ≤ k.fc
  · rw [if_pos hc] at hs ⊢
    obtain ⟨rfl, rfl⟩ := hs
    have hno : ∀ e ∈ k.ws, e.1 ≠ d.s := by
      rcases hf with hf | ⟨e, he, h1, h2⟩
      · exact hf
      · have := (hI.hW e he).2.2.1; omega
    have hd : delL d.s k.rs = k.rs := delL_none fun p hp e => by
      obtain ⟨q, hq, h2⟩ := hI.hR p hp
      exact hno q hq (by omega)
    rw [hd]
    exact ⟨rfl, Or.inr hI⟩
  rw [if_neg hc] at hs ⊢
  have hdR : ∀ p, p ∈ delL d.s k.rs → ∃ e ∈ k.ws, e.1 = p.1 ∧ e.1 ≠ d.s := fun p hp => by
    obtain ⟨h3, h4⟩ := mem_delL.1 hp
    obtain ⟨e, he, h5⟩ := hI.hR p h3
    exact ⟨e, he, h5, by omega⟩
  cases hg : getL d.s k.ws with
  | none =>
    rw [hg] at hs
    obtain ⟨rfl, rfl⟩ := hs
    rw [if_pos rfl]
    exact ⟨rfl, Or.inr (hI.less (List.Sublist.refl _) List.filter_sublist hI.h1 hI.h2 hI.n2 hI.n3 (fun p hp => ⟨(hI.hW p hp).1, (hI.hW p hp).2.2.1⟩) (fun p hp => by
      obtain ⟨e, he, h5, _⟩ := hdR p hp
      exact ⟨e, he, h5⟩))⟩
  | some p =>
    rw [hg] at hs
    simp only at hs
    rw [if_neg (by simp)]
    have hm := getL_mem hg
    have hpc : p.1 = d.c := by
      rcases hf with hf | ⟨e, he, h1, h2⟩
      · exact absurd rfl (hf _ hm)
      · have h3 := hI.sW.get (k := e.1) (v := e.2) he
        rw [h1, hg] at h3
        cases h3
        exact h2
    have hpb := hI.hW _ hm
    have b1 : k.fs < d.s := hpb.1
    have b2 : d.s ≤ k.ds := hpb.2.1
    have b3 : k.fc < d.c := by have : k.fc < p.1 := hpb.2.2.1; omega
    have b4 : d.c ≤ k.dc := by have : p.1 ≤ k.dc := hpb.2.2.2; omega
    have bup : ∀ e ∈ k.ws, d.s < e.1 → d.c < e.2.1 := fun e he hlt => by
      have : p.1 < e.2.1 := hI.sC _ hm e he hlt
      omega
    by_cases h1 : ack = 1
    · rw [if_pos h1] at hs ⊢
      obtain ⟨rfl, V', R', rfl, hA⟩ := hs
      obtain ⟨e1, e2⟩ := hA.2.2 (fun p hp => (hI.hW p hp).1) (fun p hp => by
        obtain ⟨e, he, h5, _⟩ := hdR p hp
        exact ⟨e, he, h5⟩)
      have e3 : (delL d.s k.rs).filter (fun p => decide (d.s < p.1)) = k.rs.filter (fun p => decide (d.s < p.1)) := by
        unfold delL
        rw [List.filter_filter]
        refine List.filter_congr fun p _ => ?_
        by_cases h : d.s < p.1
        · have : (p.1 == d.s) = false := by simp; omega
          simp [h, this]
        · simp [h]
      rw [e1, e2, e3]
      refine ⟨rfl, Or.inr (hI.less List.filter_sublist List.filter_sublist b4 b2 (by have := hI.n2; omega) (by have := hI.n3; omega) (fun p hp => ?_) (fun p hp => ?_))⟩
      · obtain ⟨h3, h4⟩ := List.mem_filter.1 hp
        have h4 := of_decide_eq_true h4
        exact ⟨h4, bup p h3 h4⟩
      · obtain ⟨h3, h4⟩ := List.mem_filter.1 hp
        have h4 := of_decide_eq_true h4
        obtain ⟨e, he, h5⟩ := hI.hR p h3
        exact ⟨e, List.mem_filter.2 ⟨he, decide_eq_true (by omega)⟩, h5⟩
    · rw [if_neg h1] at hs ⊢
      obtain ⟨rfl, fc', fs', rfl, hF⟩ := hs
      rw [eraseP_del hI.sW]
      have eo : own1V d.c p = d.c := by
        unfold own1V
        rw [if_neg (by omega)]
      rw [eo] at hF
      have hsub : (delL d.s k.ws).Sublist k.ws := List.filter_sublist
      have hsubR : (delL d.s k.rs).Sublist k.rs := List.filter_sublist
      have hRR : ∀ p ∈ delL d.s k.rs, ∃ e ∈ delL d.s k.ws, e.1 = p.1 := fun p hp => by
        obtain ⟨e, he, h5, h6⟩ := hdR p hp
        exact ⟨e, mem_delL.2 ⟨he, h6⟩, h5⟩
      have hfw : IntKind.u64.wrap (k.fc + 1) = k.fc + 1 := wrap_u64 (by have := hI.n2; omega) (by have := hI.n0; have := hI.h1; omega)
      have key : sFl k d (delL d.s k.ws) = (fc', fs') ∧ fc' ≤ k.dc ∧ fs' ≤ k.ds ∧ 0 ≤ fc' ∧ 0 ≤ fs' ∧ ∀ p ∈ delL d.s k.ws, fs' < p.1 ∧ fc' < p.2.1 := by
        have n2 := hI.n2
        have n3 := hI.n3
        have i1 := hI.h1
        have i2 := hI.h2
        unfold sFl
        rcases hF with ⟨hV, rfl, rfl⟩ | ⟨hV, hne, rfl, rfl⟩ | ⟨hV, heq, hF⟩
        · rw [if_pos hV, hV]
          exact ⟨rfl, Int.le_refl _, Int.le_refl _, by omega, by omega, by simp⟩
        · rw [if_neg hV, if_neg (by rw [hfw]; exact hne)]
          exact ⟨rfl, i1, i2, n2, n3, fun p hp => ⟨(hI.hW p (hsub.subset hp)).1, (hI.hW p (hsub.subset hp)).2.2.1⟩⟩
        · rw [if_neg hV, if_pos (by rw [hfw]; exact heq)]
          have hall : ∀ e ∈ delL d.s k.ws, d.s < e.1 := fun e he => by
            obtain ⟨h3, h4⟩ := mem_delL.1 he
            by_cases h5 : d.s < e.1
            · exact h5
            · have h6 := hI.sC e h3 _ hm (show e.1 < d.s by omega)
              have h6' : e.2.1 < p.1 := h6
              have := (hI.hW e h3).2.2.1
              omega
          have hfil : (delL d.s k.ws).filter (fun p => decide (d.s < p.1)) = delL d.s k.ws := List.filter_eq_self.2 fun e he => decide_eq_true (hall e he)
          rw [hfil]
          obtain ⟨y, V, hyV⟩ := List.exists_cons_of_ne_nil hV
          have hy : y ∈ delL d.s k.ws := by rw [hyV]; simp
          have hyk := hsub.subset hy
          have hyb := hI.hW y hyk
          have hyc := bup y hyk (hall y hy)
          have hsrt : Srt (delL d.s k.ws) := hI.sW.del
          rw [hyV]
          simp only
          rcases hF with ⟨hF, _⟩ | ⟨x, hx, h3, h4, h5, rfl, rfl⟩
          · exfalso
            rcases hF with hF | hF
            · omega
            · exact hF y hy ⟨hall y hy, hyb.2.1⟩
          · have hxy : x = y := by
              rw [hyV] at hx hsrt
              rcases List.mem_cons.1 hx with h6 | h6
              · exact h6
              · have h7 := (List.pairwise_cons.1 hsrt).1 x h6
                exact absurd ⟨hall y hy, h7⟩ (h5 y hy)
            subst hxy
            have hx0 : 0 < x.2.1 := by omega
            rw [if_pos hx0, if_pos hx0, wrap_lo (by omega) (by have := hI.n0; omega), wrap_lo (by omega) (by have := hI.n1; omega)]
            refine ⟨rfl, by omega, by omega, by omega, by omega, fun q hq => ?_⟩
            rcases List.mem_cons.1 hq with rfl | hq
            · omega
            · rw [hyV] at hsrt
              have h7 := (List.pairwise_cons.1 hsrt).1 q hq
              have h8 := hI.sC x hyk q (hsub.subset (by rw [hyV]; simp [hq])) h7
              omega
      obtain ⟨e1, c1, c2, c3, c4, c5⟩ := key
      rw [e1]
      exact ⟨rfl, Or.inr (hI.less hsub hsubR c1 c2 c3 c4 c5 hRR)⟩

theorem inv_sound {k : Kp} (h : Sound k) (n2 : 0 ≤ k.fc) (n3 : 0 ≤ k.fs) (b0 : k.dc ≤ 65536) (b1 : k.ds ≤ 65536) : Inv k where
  sW := srt_steps _ fun i x y hy hx => ((h.2.2.1 (i + 1) x hx).2.2.2.2 i y rfl hy).1
  sC := fun a ha b hb hab => by
    have p1 : Srt k.ws := srt_steps _ fun i x y hy hx => ((h.2.2.1 (i + 1) x hx).2.2.2.2 i y rfl hy).1
    have p2 : Srt (k.ws.map fun x => (x.2.1, x.1)) := srt_steps _ fun i x y hy hx => by
      rw [List.getElem?_map] at hy hx
      obtain ⟨y', hy', rfl⟩ := Option.map_eq_some_iff.1 hy
      obtain ⟨x', hx', rfl⟩ := Option.map_eq_some_iff.1 hx
      exact ((h.2.2.1 (i + 1) x' hx').2.2.2.2 i y' rfl hy').2
    have p3 := List.pairwise_map.1 p2
    obtain ⟨i, hi, rfl⟩ := List.getElem_of_mem ha
    obtain ⟨j, hj, rfl⟩ := List.getElem_of_mem hb
    rcases Nat.lt_trichotomy i j with hij | rfl | hij
    · exact List.pairwise_iff_getElem.1 p3 i j hi hj hij
    · exact absurd hab (by omega)
    · have := List.pairwise_iff_getElem.1 p1 j i hj hi hij
      omega
  sR := srt_steps _ fun i x y hy hx => (h.2.2.2 (i + 1) x hx).2.2 i y rfl hy
  h1 := h.1
  h2 := h.2.1
  hW := fun p hp => by
    obtain ⟨i, hi, rfl⟩ := List.getElem_of_mem hp
    obtain ⟨h1, h2, h3, h4, _⟩ := h.2.2.1 i _ (List.getElem?_eq_getElem hi)
    exact ⟨h1, h2, h3, h4⟩
  hR := fun p hp => by
    obtain ⟨i, hi, rfl⟩ := List.getElem_of_mem hp
    exact (h.2.2.2 i _ (List.getElem?_eq_getElem hi)).1
  hT := fun p hp => by
    obtain ⟨i, hi, rfl⟩ := List.getElem_of_mem hp
    exact (h.2.2.2 i _ (List.getElem?_eq_getElem hi)).2.1
  n0 := b0
  n1 := b1
  n2 := n2
  n3 := n3
theorem inv_bare {dc ds fc fs : Int} (h1 : fc ≤ dc) (h2 : fs ≤ ds) (n0 : dc ≤ 65536) (n1 : ds ≤ 65536) (n2 : 0 ≤ fc) (n3 : 0 ≤ fs) : Inv ⟨dc, ds, fc, fs, [], []⟩ :=
  ⟨List.Pairwise.nil, by simp, List.Pairwise.nil, h1, h2, by simp, by simp, by simp, n0, n1, n2, n3⟩

theorem step_eq {ack : Int} {k k' : Kp} {d : Dd} {ok : Bool} (h : ack = 0 ∨ Inv k) (hf : FairP ack k d) (hp : PairOk d) (hr : RgD d) (hs : StepR ack k d k' ok) :
    sDid ack k d = (k', ok) ∧ (ack = 0 ∨ Inv k') := by
  obtain ⟨f0, f1, f2⟩ := hf
  unfold sDid
  rcases hs with ⟨h0, hs⟩ | ⟨h0, hs⟩ | ⟨h0, rfl, rfl⟩ | ⟨h0, hs⟩ | ⟨h0, rfl, rfl⟩ | ⟨h0, rfl, rfl⟩
  · rw [if_pos h0]
    exact step_del h (f0 h0) hp h0 hr hs
  · rw [if_neg (by omega), if_pos h0]
    exact step_ack h (f1 h0) hr hs
  · rw [if_neg (by omega), if_neg (by omega), if_pos h0]
    refine ⟨rfl, h.imp_right fun hI => ?_⟩
    have hw := f2 h0
    have hrs : k.rs = [] := by
      cases hk : k.rs with
      | nil => rfl
      | cons p r =>
        obtain ⟨e, he, _⟩ := hI.hR p (by rw [hk]; simp)
        rw [hw] at he
        simp at he
    show Inv ⟨k.dc, d.s, k.fc, d.s, k.ws, k.rs⟩
    rw [hw, hrs]
    exact inv_bare hI.h1 (Int.le_refl _) hI.n0 hp.1.2.2.2.1 hI.n2 hr.s
  · rw [if_neg (by omega), if_neg (by omega), if_neg (by omega), if_pos h0]
    obtain ⟨_, _, _, hS, b0, b1⟩ := hp
    have g1 := hS.1
    have g2 := hS.2.1
    by_cases hc : d.k.dc < k.dc ∨ d.k.fs < k.fs
    · rw [if_pos hc] at hs
      obtain ⟨rfl, rfl⟩ := hs
      rw [if_pos (Or.inr (Or.inr hc))]
      exact ⟨rfl, h⟩
    · rw [if_neg hc] at hs
      obtain ⟨rfl, rfl⟩ := hs
      rw [if_neg (by omega)]
      exact ⟨rfl, Or.inr (inv_sound hS hr.fc hr.fs b0 b1)⟩
  · rw [if_neg (by omega), if_neg (by omega), if_neg (by omega), if_neg (by omega), if_pos h0]
    have e1 : (if 0 < d.s then k.rs.filter (fun p => decide (IntKind.u64.wrap (d.s - 1) < p.1)) else k.rs) = (if d.s = 0 then k.rs else k.rs.filter fun p => decide (d.s ≤ p.1)) := by
      have := hr.s
      by_cases h5 : d.s = 0
      · rw [if_neg (by omega), if_pos h5]
      · rw [if_pos (by omega), if_neg h5, wrap_lo (by omega) (by have := hp.1.2.2.2.1; omega)]
        refine List.filter_congr fun p _ => ?_
        by_cases h6 : d.s ≤ p.1
        · rw [decide_eq_true h6, decide_eq_true (by omega)]
        · rw [decide_eq_false h6, decide_eq_false (by omega)]
    rw [e1]
    refine ⟨rfl, h.imp_right fun hI => hI.less (List.Sublist.refl _) ?_ hI.h1 hI.h2 hI.n2 hI.n3 (fun p hp => ⟨(hI.hW p hp).1, (hI.hW p hp).2.2.1⟩) (fun p hp => ?_)⟩
    · split
      · exact List.Sublist.refl _
      · exact List.filter_sublist
    · split at hp
      · exact hI.hR p hp
      · exact hI.hR p (List.mem_filter.1 hp).1
  · rw [if_neg (by omega), if_neg (by omega), if_neg (by omega), if_neg (by omega), if_neg (by omega), if_pos h0]
    exact ⟨rfl, Or.inr (inv_bare (Int.le_refl _) (Int.le_refl _) (by decide) hp.1.2.2.2.1 (Int.le_refl _) hr.s)⟩

/-- A fair script: the store's answers are the reference's. -/
theorem run_eq {ack : Int} {ds : List Dd} {oks : List Bool} {ks : List Kp} {k : Kp} (h : Tr ack ds oks ks k) : ∀ {oks' : List Bool} {ks' : List Kp} {k' : Kp}, Ts ack ds oks' ks' k' → (∀ d ∈ ds, PairOk d ∧ RgD d) → (∀ i (hi : i < ds.length), FairP ack (stB ks' i) ds[i]) →
    oks = oks' ∧ ks = ks' ∧ k = k' ∧ (ack = 0 ∨ Inv k) := by
  induction h with
  | nil =>
    intro oks' ks' k' h _ _
    obtain ⟨rfl, rfl, rfl⟩ := h.none
    exact ⟨rfl, rfl, rfl, Or.inr (inv_bare (Int.le_refl _) (Int.le_refl _) (by decide) (by decide) (Int.le_refl _) (Int.le_refl _))⟩
  | @snoc ds oks ks k k' d ok h hs ih =>
    intro oks' ks' k'' h' hp hf
    obtain ⟨o0, s0, k0, ok0, rfl, rfl, h0, hd⟩ := Ts.last h'
    obtain ⟨_, hl⟩ := h0.len
    obtain ⟨rfl, rfl, rfl, hI⟩ := ih h0 (fun d hd => hp d (by simp [hd])) (fun i hi => by
      have := hf i (by simp; omega)
      rw [stB_app (by omega), List.getElem_append_left hi] at this
      exact this)
    have hfd : FairP ack k d := by
      have := hf ds.length (by simp)
      rw [stB_app (by omega), h0.fin] at this
      simpa using this
    obtain ⟨hpd, hrd⟩ := hp d (by simp)
    obtain ⟨e, hI'⟩ := step_eq hI hfd hpd hrd hs
    rw [hd] at e
    cases e
    exact ⟨rfl, rfl, rfl, hI'⟩
end Go.Proofs.YtpbhblppehkifaaDoor
