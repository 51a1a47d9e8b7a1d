/- A deed over a consumer's state, in plain words. -/
import Derived.Test.YtpbhblppehkifaaDoorAckD
import Derived.Test.YtpbhblppehkifaaDoorUpd
namespace Go.Proofs.YtpbhblppehkifaaDoor
open Go Go.RowKit Go.MuLone Con

/-- A deed. -/
structure Dd where
  op : Int
  c : Int
  s : Int
  t : Int
  at_ : Int
  k : Kp

def AllV (s fs : Int) (V : List (Int × Int × Int)) (R : List (Int × Int)) (V' : List (Int × Int × Int)) (R' : List (Int × Int)) : Prop :=
  V'.Sublist V ∧ R'.Sublist R ∧ ((∀ p ∈ V, fs < p.1) → (∀ p ∈ R, ∃ e ∈ V, e.1 = p.1) → V' = V.filter (fun p => decide (s < p.1)) ∧ R' = R.filter (fun p => decide (s < p.1)))
def own1V (c : Int) (e : Int × Int) : Int := if e.1 < c ∧ 0 < e.1 then e.1 else c
def FlV (dc ds fc fs c s : Int) (V : List (Int × Int × Int)) (fc' fs' : Int) : Prop :=
  (V = [] ∧ fc' = dc ∧ fs' = ds) ∨ (V ≠ [] ∧ c ≠ fc + 1 ∧ fc' = fc ∧ fs' = fs) ∨
    (V ≠ [] ∧ c = fc + 1 ∧ (((dc ≤ c ∨ ∀ x ∈ V, ¬ (s < x.1 ∧ x.1 ≤ ds)) ∧ fc' = c ∧ fs' = s) ∨
      ∃ x ∈ V, s < x.1 ∧ x.1 ≤ ds ∧ (∀ y ∈ V, ¬ (s < y.1 ∧ y.1 < x.1)) ∧ fc' = (if 0 < x.2.1 then x.2.1 - 1 else c) ∧ fs' = (if 0 < x.2.1 then x.1 - 1 else s)))
theorem all_val {s fs : Int} {W W' : List Wt} {R R' : List (Int × Int)} (h : AllR s fs W R W' R') : AllV s fs (W.map val) R (W'.map val) R' := by
  refine ⟨h.1.map _, h.2.1, fun h1 h2 => ?_⟩
  obtain ⟨h3, h4⟩ := h.2.2 (fun e he => h1 (val e) (List.mem_map.2 ⟨e, he, rfl⟩)) (fun p hp => by
    obtain ⟨q, hq, hh⟩ := h2 p hp
    obtain ⟨e, he, rfl⟩ := List.mem_map.1 hq
    exact ⟨e, he, hh⟩)
  exact ⟨by rw [h3, List.filter_map]; rfl, h4⟩
theorem fl_val {dc ds fc fs c s fc' fs' : Int} {W : List Wt} (h : FlR dc ds fc fs c s W fc' fs') : FlV dc ds fc fs c s (W.map val) fc' fs' := by
  have hne : W ≠ [] → W.map val ≠ [] := fun h1 h2 => h1 (by simpa using h2)
  rcases h with ⟨rfl, h1, h2⟩ | ⟨h0, h1, h2⟩ | ⟨h0, h1, ⟨h2, h3⟩ | ⟨x, hx, h2, h3, h4, h5⟩⟩
  · exact Or.inl ⟨rfl, h1, h2⟩
  · exact Or.inr (Or.inl ⟨hne h0, h1, h2⟩)
  · refine Or.inr (Or.inr ⟨hne h0, h1, Or.inl ⟨h2.imp id (fun h2 p hp => ?_), h3⟩⟩)
    obtain ⟨e, he, rfl⟩ := List.mem_map.1 hp
    exact h2 e he
  · refine Or.inr (Or.inr ⟨hne h0, h1, Or.inr ⟨val x, List.mem_map.2 ⟨x, hx, rfl⟩, h2, h3, fun p hp => ?_, h5⟩⟩)
    obtain ⟨e, he, rfl⟩ := List.mem_map.1 hp
    exact h4 e he

/-- What an acknowledgement does. -/
def AckR (ack : Int) (k : Kp) (c s : Int) (k' : Kp) (ok : Bool) : Prop :=
  if ack = 0 then ok = false ∧ k' = k
  else if c ≤ k.fc then ok = true ∧ k' = { k with rs := delL s k.rs }
  else match getL s k.ws with
    | none => ok = false ∧ k' = { k with rs := delL s k.rs }
    | some p =>
      if ack = 1 then ok = true ∧ ∃ V' R', k' = { k with fc := c, fs := s, ws := V', rs := R' } ∧ AllV s k.fs k.ws (delL s k.rs) V' R'
      else ok = true ∧ ∃ fc' fs', k' = { k with fc := fc', fs := fs', ws := delL s k.ws, rs := delL s k.rs } ∧ FlV k.dc k.ds k.fc k.fs (own1V c p) s (delL s k.ws) fc' fs'
/-- What a delivery does. -/
def DelR (ack : Int) (k : Kp) (c s t at_ : Int) (k' : Kp) (ok : Bool) : Prop :=
  if ack = 0 then ok = okT t ∧ k' = if t = 1 ∧ k.fc < c then { k with dc := (if k.dc < c then c else k.dc), ds := (if k.ds < s then s else k.ds), fc := (if k.dc < c then c else k.fc), fs := (if k.ds < s then s else k.fs) } else k
  else ok = true ∧ k' = if c ≤ k.fc then k else { k with dc := mxI k.dc c, ds := mxI k.ds s, ws := wsD k.ds c s at_ k.ws, rs := rsD s t k.rs }
/-- What a deed does. -/
def StepR (ack : Int) (k : Kp) (d : Dd) (k' : Kp) (ok : Bool) : Prop :=
  (d.op = 0 ∧ DelR ack k d.c d.s d.t d.at_ k' ok) ∨ (d.op = 1 ∧ AckR ack k d.c d.s k' ok) ∨ (d.op = 2 ∧ ok = true ∧ k' = { k with ds := d.s, fs := d.s }) ∨
  (d.op = 3 ∧ if d.k.dc < k.dc ∨ d.k.fs < k.fs then ok = false ∧ k' = k else ok = true ∧ k' = d.k) ∨
  (d.op = 4 ∧ ok = true ∧ k' = { k with rs := if d.s = 0 then k.rs else k.rs.filter fun p => decide (d.s ≤ p.1) }) ∨
  (d.op = 5 ∧ ok = true ∧ k' = ⟨0, d.s, 0, d.s, [], []⟩)

theorem own1_val (c : Int) (e : Wt) : own1 c e = own1V c (e.c, e.t) := rfl
theorem Ok16.mx {a b : Int} (h1 : Ok16 a) (h2 : Ok16 b) : Ok16 (mxI a b) := by
  unfold mxI
  by_cases h : a < b
  · rw [if_pos h]; exact h2
  · rw [if_neg h]; exact h1

/-- A delivery, whatever the policy. -/
theorem deliver_st (B m n : Nat) (ack c s t at_ : Int) (k : Kp) (w : World) (hack : ack = 0 ∨ ack = 1 ∨ ack = 2) (hS : SurC w) (hB : 4 ≤ B) (hn : n < 100000) (hc : Ok16 c) (hs : Ok16 s) (ht : 1 ≤ t ∧ t ≤ 100000) (h : Sits w B m n ack k) :
    Calls Tryd.prog 28 #[ptr m, .int .u64 c, .int .u64 s, .int .u64 t, .int .i64 at_] w fun e w' => ∃ v ok k', e = .returned v ∧ ErrV v ok ∧ DelR ack k c s t at_ k' ok ∧ Sits w' B m (n + 1) ack k' ∧ Eff B w w' := by
  obtain ⟨⟨mp, mr, W, hst, hws⟩, n0, n1, n2, n3⟩ := h
  by_cases h0 : ack = 0
  · subst h0
    refine (deliver0_st B m n k.dc k.ds k.fc k.fs c s t at_ mp mr W k.rs w hS hB hst).mono ?_
    rintro e w' ⟨v, rfl, hv, he, dc', ds', fc', fs', hst', hq⟩
    refine ⟨v, okT t, ⟨dc', ds', fc', fs', k.ws, k.rs⟩, rfl, hv, ?_, ?_, he⟩
    · unfold DelR
      rw [if_pos rfl]
      refine ⟨rfl, ?_⟩
      by_cases hh : t = 1 ∧ k.fc < c
      · rw [if_pos hh] at hq ⊢
        injection hq with q1 hq
        injection hq with q2 hq
        injection hq with q3 q4
        rw [q1, q2, q3, q4]
      · rw [if_neg hh] at hq ⊢
        injection hq with q1 hq
        injection hq with q2 hq
        injection hq with q3 q4
        rw [q1, q2, q3, q4]
    · have hk : Ok16 dc' ∧ Ok16 ds' ∧ Ok16 fc' ∧ Ok16 fs' := by
        by_cases hh : t = 1 ∧ k.fc < c
        · rw [if_pos hh] at hq
          injection hq with q1 hq
          injection hq with q2 hq
          injection hq with q3 q4
          rw [q1, q2, q3, q4]
          refine ⟨?_, ?_, ?_, ?_⟩ <;> split <;> assumption
        · rw [if_neg hh] at hq
          injection hq with q1 hq
          injection hq with q2 hq
          injection hq with q3 q4
          rw [q1, q2, q3, q4]
          exact ⟨n0, n1, n2, n3⟩
      exact ⟨⟨mp, mr, W, hst'.mono (Nat.le_succ n), hws⟩, hk.1, hk.2.1, hk.2.2.1, hk.2.2.2⟩
  · refine (deliver1_st B m n ack k.dc k.ds k.fc k.fs c s t at_ mp mr W k.rs w h0 hn hc hs ht hst).mono ?_
    rintro e w' ⟨rfl, hd⟩
    unfold Del1 at hd
    by_cases hcf : c ≤ k.fc
    · rw [if_pos hcf] at hd
      exact ⟨_, true, k, rfl, Or.inl ⟨rfl, rfl⟩, by unfold DelR; rw [if_neg h0, if_pos hcf]; exact ⟨rfl, rfl⟩, ⟨⟨mp, mr, W, hd.2.mono (Nat.le_succ n), hws⟩, n0, n1, n2, n3⟩, hd.1⟩
    · rw [if_neg hcf] at hd
      obtain ⟨mp', mr', W', hse, hv⟩ := hd
      exact ⟨_, true, { k with dc := mxI k.dc c, ds := mxI k.ds s, ws := wsD k.ds c s at_ k.ws, rs := rsD s t k.rs }, rfl, Or.inl ⟨rfl, rfl⟩, by unfold DelR; rw [if_neg h0, if_neg hcf]; exact ⟨rfl, rfl⟩, ⟨⟨mp', mr', W', hse.1, by rw [hv, hws]⟩, n0.mx hc, n1.mx hs, n2, n3⟩, hse.2⟩

/-- An acknowledgement, whatever the policy. -/
theorem ack_st (B m n : Nat) (ack c s : Int) (k : Kp) (w : World) (hack : ack = 0 ∨ ack = 1 ∨ ack = 2) (hS : SurC w) (hB : 4 ≤ B) (hn : n < 100000) (hc : Ok16 c) (hs : Ok16 s) (h : Sits w B m n ack k) :
    Calls Tryd.prog 29 #[ptr m, .int .u64 c, .int .u64 s] w fun e w' => ∃ v ok k', e = .returned v ∧ ErrV v ok ∧ AckR ack k c s k' ok ∧ Sits w' B m (n + 1) ack k' ∧ Eff B w w' := by
  obtain ⟨⟨mp, mr, W, hst, hws⟩, n0, n1, n2, n3⟩ := h
  by_cases h0 : ack = 0
  · subst h0
    refine (ackNone_st B m n k.dc k.ds k.fc k.fs c s mp mr W k.rs w hS hB hst).mono ?_
    rintro e w' ⟨v, rfl, hv, h1, h2⟩
    exact ⟨v, false, k, rfl, hv, by unfold AckR; rw [if_pos rfl]; exact ⟨rfl, rfl⟩, ⟨⟨mp, mr, W, h1.mono (Nat.le_succ n), hws⟩, n0, n1, n2, n3⟩, h2⟩
  · by_cases hcf : c ≤ k.fc
    · refine (ackLow_st B m n ack k.dc k.ds k.fc k.fs c s mp mr W k.rs w h0 hs hcf hst).mono ?_
      rintro e w' ⟨rfl, h1, h2⟩
      exact ⟨_, true, { k with rs := delL s k.rs }, rfl, Or.inl ⟨rfl, rfl⟩, by unfold AckR; rw [if_neg h0, if_pos hcf]; exact ⟨rfl, rfl⟩, ⟨⟨mp, mr, W, h1.mono (Nat.le_succ n), hws⟩, n0, n1, n2, n3⟩, h2⟩
    · have hgv : getL s k.ws = (getW s W).map fun e => (e.c, e.t) := by rw [← hws, getW_val]
      cases hg : getW s W with
      | none =>
        refine (ackMiss_st B m n ack k.dc k.ds k.fc k.fs c s mp mr W k.rs w hS hB h0 hs hcf hg hst).mono ?_
        rintro e w' ⟨v, rfl, hv, h1, h2⟩
        exact ⟨v, false, { k with rs := delL s k.rs }, rfl, hv, by unfold AckR; rw [if_neg h0, if_neg hcf, hgv, hg]; exact ⟨rfl, rfl⟩, ⟨⟨mp, mr, W, h1.mono (Nat.le_succ n), hws⟩, n0, n1, n2, n3⟩, h2⟩
      | some x =>
        by_cases h1a : ack = 1
        · subst h1a
          refine (ackAll_st B m n k.dc k.ds k.fc k.fs c s mp mr W k.rs w hn hs n3 hcf x hg hst).mono ?_
          rintro e w' ⟨rfl, W', R', h1, h2⟩
          refine ⟨_, true, { k with fc := c, fs := s, ws := W'.map val, rs := R' }, rfl, Or.inl ⟨rfl, rfl⟩, ?_, ⟨⟨mp, mr, W', h1.1.mono (Nat.le_succ n), rfl⟩, n0, n1, hc, hs⟩, h1.2⟩
          unfold AckR
          rw [if_neg h0, if_neg hcf, hgv, hg]
          show (if (1 : Int) = 1 then _ else _)
          rw [if_pos rfl]
          exact ⟨rfl, _, _, rfl, by rw [← hws]; exact all_val h2⟩
        · have h2a : ack = 2 := by omega
          subst h2a
          refine (ackOne_st B m n k.dc k.ds k.fc k.fs c s mp mr W k.rs w hs hc n2 n1 hcf x hg hst).mono ?_
          rintro e w' ⟨rfl, fc', fs', h1, h2⟩
          have hk := hst.rest.kW x (getW_mem hg).1
          have hof : Ok16 fc' ∧ Ok16 fs' := by
            rcases h2 with ⟨_, q1, q2⟩ | ⟨_, _, q1, q2⟩ | ⟨_, _, ⟨_, q1, q2⟩ | ⟨y, hy, _, _, _, q1, q2⟩⟩
            · rw [q1, q2]; exact ⟨n0, n1⟩
            · rw [q1, q2]; exact ⟨n2, n3⟩
            · rw [q1, q2]
              refine ⟨?_, hs⟩
              unfold own1
              split
              · exact ⟨hk.2.2.1, hk.2.2.2⟩
              · exact hc
            · have hy2 := hst.rest.kW y (List.mem_filter.1 hy).1
              rw [q1, q2]
              by_cases h0y : 0 < y.c
              · rw [if_pos h0y, if_pos h0y]
                have hs1 : s < y.s := by assumption
                have := hs.1
                exact ⟨⟨by omega, by omega⟩, ⟨by omega, by omega⟩⟩
              · rw [if_neg h0y, if_neg h0y]
                refine ⟨?_, hs⟩
                unfold own1
                split
                · exact ⟨hk.2.2.1, hk.2.2.2⟩
                · exact hc
          refine ⟨_, true, { k with fc := fc', fs := fs', ws := delL s k.ws, rs := delL s k.rs }, rfl, Or.inl ⟨rfl, rfl⟩, ?_, ⟨⟨mp, mr, delW s W, h1.1.mono (Nat.le_succ n), by rw [val_del, hws]⟩, n0, n1, hof.1, hof.2⟩, h1.2⟩
          unfold AckR
          rw [if_neg h0, if_neg hcf, hgv, hg]
          show (if (2 : Int) = 1 then _ else _)
          rw [if_neg (by decide)]
          refine ⟨rfl, fc', fs', rfl, ?_⟩
          have := fl_val h2
          rw [val_del, hws] at this
          exact this
end Go.Proofs.YtpbhblppehkifaaDoor
