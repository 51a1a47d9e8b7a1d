/- What the printed functions of the reference tell of names. -/
import Derived.Test.YtdacmcbipnnneaaDoorDnQ
import Derived.Test.YtdacmcbipnnneaaDoorPXDx6
namespace Go.Proofs.YtdacmcbipnnneaaDoor.PXD
open Go.RowKit Go.Proofs.YtdacmcbipnnneaaDoorW.PrintWords Go.Proofs.YtdacmcbipnnneaaDoorW.PrintLast
set_option linter.unusedVariables false
set_option linter.unusedSimpArgs false

theorem rd34 (xs : List S34) (i : Nat) : rd_T34 xs (i : Int) = xs.getD i z34 := by simp [rd_T34]
theorem rdL (xs : List (List S34)) (i : Nat) : rd_L2 xs (i : Int) = xs.getD i [] := by simp [rd_L2]

/-- Any function of a loop whose head is this. -/
theorem zz5 (a b : ByteArray) : laws_zzFits5.f a b = some (decide (a.size ≤ 2147483647 ∧ b.size ≤ 2147483647)) := by
  unfold laws_zzFits5.f
  by_cases h1 : (a.size : Int) > 2147483647
  · rw [if_pos h1, decide_eq_false (by omega)]
  · rw [if_neg h1]
    by_cases h2 : (b.size : Int) > 2147483647
    · rw [if_pos h2, decide_eq_false (by omega)]
    · rw [if_neg h2, decide_eq_true (by omega)]

theorem zz4 (xs : List S34) (hn : xs.length < 4611686018427387904) : ∃ r, Ev (fun k => laws_zzFits4.f k xs) r := by
  by_cases h : (xs.length : Int) > 2147483647
  · exact ⟨false, Ev.congr (f := fun _ => some false) (fun k => by unfold laws_zzFits4.f; rw [if_pos h]) (Ev.now _)⟩
  refine ⟨_, Ev.congr (fun k => by unfold laws_zzFits4.f; rw [if_neg h]; rfl) (ev_all xs.length (fun k i => laws_zzFits4.l0 k xs xs.length i) (fun k i => laws_zzFits5.f (xs.getD i z34).f0 (xs.getD i z34).f1) _ (fun k i hi => ?_) (fun i hi => Ev.congr (fun k => zz5 _ _) (Ev.now _)) xs.length 0 rfl (Nat.zero_le _))⟩
  simp only [laws_zzFits4.l0]
  by_cases hlt : i < xs.length
  · rw [if_pos (by omega), if_pos (by omega), if_pos (by omega), if_pos hlt, wrap_succ i (by omega), rd34]
  · rw [if_neg (by omega), if_neg hlt]

theorem zz3 (xs : List (List S34)) (hn : xs.length < 4611686018427387904) (hm : ∀ r ∈ xs, r.length < 4611686018427387904) : ∃ r, Ev (fun k => laws_zzFits3.f k xs) r := by
  by_cases h : (xs.length : Int) > 2147483647
  · exact ⟨false, Ev.congr (f := fun _ => some false) (fun k => by unfold laws_zzFits3.f; rw [if_pos h]) (Ev.now _)⟩
  obtain ⟨p, hp, _⟩ := ev_choose xs.length (fun k i => laws_zzFits4.f k (xs.getD i [])) (fun _ => True) (fun i hi => by
    obtain ⟨r, hr⟩ := zz4 (xs.getD i []) (by simp [List.getD, hi]; exact hm _ (List.getElem_mem hi))
    exact ⟨r, hr, fun _ => trivial⟩)
  refine ⟨_, Ev.congr (fun k => by unfold laws_zzFits3.f; rw [if_neg h]; rfl) (ev_all xs.length (fun k i => laws_zzFits3.l0 k xs xs.length i) (fun k i => laws_zzFits4.f k (xs.getD i [])) p (fun k i hi => ?_) hp xs.length 0 rfl (Nat.zero_le _))⟩
  simp only [laws_zzFits3.l0]
  by_cases hlt : i < xs.length
  · rw [if_pos (by omega), if_pos (by omega), if_pos (by omega), if_pos hlt, wrap_succ i (by omega), rdL]
  · rw [if_neg (by omega), if_neg hlt]

theorem ascii_ev (a : ByteArray) (hn : a.size < 4611686018427387904) : ∃ r, Ev (fun k => laws_ascii.f k a) r := by
  refine ⟨_, Ev.congr (fun k => rfl) (ev_all a.size (fun k i => laws_ascii.l0 k a i) (fun k i => some (!decide (bt a i > 126))) (fun i => !decide (bt a i > 126)) (fun k i hi => ?_) (fun i hi => Ev.now _) a.size 0 rfl (Nat.zero_le _))⟩
  simp only [laws_ascii.l0]
  by_cases hlt : i < a.size
  · rw [if_pos (by omega), if_pos (by omega), if_pos hlt, wrap_succ i (by omega)]
    by_cases h : bt a i > 126 <;> simp [h]
  · rw [if_neg (by omega), if_neg hlt]

theorem conf_ev (a : ByteArray) (hn : a.size < 4611686018427387904) : ∃ r, Ev (fun k => spec_confPlain.f k a ⟨#[]⟩) r := by
  have key : ∀ d i, a.size - i = d → i ≤ a.size → ∃ r, Ev (fun k => spec_confPlain.l0 k a ⟨#[]⟩ (i : Int)) r := by
    intro d
    induction d with
    | zero =>
      intro i hd hi
      refine ⟨true, Ev.step (f := fun _ => some true) (fun k => ?_) (Ev.now _)⟩
      simp only [spec_confPlain.l0]
      rw [if_neg (by omega)]
    | succ d ih =>
      intro i hd hi
      obtain ⟨r, hr⟩ := ih (i + 1) (by omega) (by omega)
      have hl1 : Ev (fun k => spec_confPlain.l1 k a ⟨#[]⟩ (i : Int) 0) r := by
        refine Ev.step (fun k => ?_) hr
        simp only [spec_confPlain.l1]
        rw [if_neg (by decide), wrap_succ i (by omega)]
      have hj : ∀ b, ∃ r, Ev (fun k => spec_confPlain.j1 k a ⟨#[]⟩ (i : Int) b) r := by
        intro b
        cases b with
        | true => exact ⟨false, Ev.step (f := fun _ => some false) (fun k => by simp [spec_confPlain.j1]) (Ev.now _)⟩
        | false => exact ⟨r, Ev.step (fun k => by simp [spec_confPlain.j1]) hl1⟩
      by_cases h : bt a i < 32
      · obtain ⟨r, hr⟩ := hj true
        refine ⟨r, Ev.step (fun k => ?_) hr⟩
        simp only [spec_confPlain.l0]
        rw [if_pos (by omega), if_pos (by omega), if_pos h]
      · obtain ⟨r, hr⟩ := hj (decide (bt a i > 126))
        refine ⟨r, Ev.step (fun k => ?_) hr⟩
        simp only [spec_confPlain.l0]
        rw [if_pos (by omega), if_pos (by omega), if_neg h]
  exact key a.size 0 rfl (Nat.zero_le _)

theorem lower_ev (a : ByteArray) (hn : a.size < 4611686018427387904) : Ev (fun k => spec_dnLower.f k a) (lowS a) := by
  have key : ∀ d i, a.size - i = d → i ≤ a.size → Ev (fun k => spec_dnLower.l0 k a (strOfNums (lowL a i)) (i : Int)) (lowS a) := by
    intro d
    induction d with
    | zero =>
      intro i hd hi
      obtain rfl : i = a.size := by omega
      refine Ev.step (f := fun _ => some (lowS a)) (fun k => ?_) (Ev.now _)
      simp only [spec_dnLower.l0]
      rw [if_neg (by omega)]; rfl
    | succ d ih =>
      intro i hd hi
      refine Ev.step (fun k => ?_) (ih (i + 1) (by omega) (by omega))
      have hb := bt_range a i
      have sz : ∀ c : Int, (strOfNums (lowL a i)).size + (strOfNums [c]).size ≤ 9223372036854775807 := by
        intro c; rw [strOfNums_size, strOfNums_size]; simp [lowL]; omega
      simp only [spec_dnLower.l0, Option.bind_some]
      rw [if_pos (by omega), if_pos (by omega), wrap_succ i (by omega), if_pos (sz _), if_pos (sz _), strOfNums_append, strOfNums_append, lowL_succ]
      unfold low
      by_cases h1 : bt a i ≥ 65
      · by_cases h2 : bt a i ≤ 90
        · rw [if_pos h1, if_pos h2, if_pos ⟨h1, h2⟩, Int.emod_eq_of_lt (by omega) (by omega)]
        · rw [if_pos h1, if_neg h2, if_neg (fun e => h2 e.2)]
      · rw [if_neg h1, if_neg (fun e => h1 e.1)]
  exact key a.size 0 rfl (Nat.zero_le _)

theorem same_ev (x y : S34) (h1 : x.f0.size < 4611686018427387904) (h2 : y.f0.size < 4611686018427387904) : Ev (fun k => spec_dnSame.f k x.f0 x.f1 y.f0 y.f1) (attrEq (toAt x) (toAt y)) := by
  unfold spec_dnSame.f
  refine Ev.bind (lower_ev _ h1) (Ev.bind (f := fun _ t119 => if (lowS x.f0).toList = t119.toList then some (x.f1.toList == y.f1.toList) else some false) (lower_ev _ h2) ?_)
  refine Ev.congr (f := fun _ => some (attrEq (toAt x) (toAt y))) (fun k => ?_) (Ev.now _)
  unfold attrEq toAt
  cases hf : foldEq x.f0 y.f0 with
  | true => rw [if_pos ((lowS_eq _ _).2 hf)]; simp
  | false => rw [if_neg (fun e => by have := (lowS_eq _ _).1 e; rw [hf] at this; cases this)]; simp

/-- What is asked of sizes. -/
def Fit (xs : List S34) : Prop := xs.length < 4611686018427387904 ∧ ∀ x ∈ xs, x.f0.size < 4611686018427387904

theorem has_ev (xs : List S34) (y : S34) (hx : Fit xs) (hy : y.f0.size < 4611686018427387904) : Ev (fun k => spec_dnHas.f k xs y.f0 y.f1) (xs.any fun x => attrEq (toAt x) (toAt y)) := by
  rw [← range_any xs z34]
  refine Ev.congr (fun k => rfl) (ev_any xs.length (fun k i => spec_dnHas.l0 k xs xs.length i y.f0 y.f1) (fun k i => spec_dnSame.f k (xs.getD i z34).f0 (xs.getD i z34).f1 y.f0 y.f1) _ (fun k i hi => ?_) (fun i hi => ?_) xs.length 0 rfl (Nat.zero_le _))
  · simp only [spec_dnHas.l0]
    by_cases hlt : i < xs.length
    · rw [if_pos (by omega), if_pos (by omega), if_pos (by omega), if_pos hlt, wrap_succ i (by have := hx.1; omega), rd34]
    · rw [if_neg (by omega), if_neg hlt]
  · refine same_ev _ _ ?_ hy
    simp only [List.getD, List.getElem?_eq_getElem hi, Option.getD_some]
    exact hx.2 _ (List.getElem_mem hi)

theorem bind_two (a b : Option Bool) (L : Option Bool) : (a.bind fun t => if t = true then some false else b.bind fun u => if u = true then L else some false) = (a.bind fun t => if t = true then some false else b).bind fun u => if u = true then L else some false := by
  cases a with
  | none => rfl
  | some t => cases t <;> simp

theorem known_ev (xs : List S34) (hx : Fit xs) : ∃ r, Ev (fun k => spec_RDNKnown.f k xs) r ∧ (r = true → Once (xs.map toAt)) := by
  obtain ⟨p, hp, hP⟩ := ev_choose xs.length (fun k i => (spec_dnHas.f k (xs.take i) (xs.getD i z34).f0 (xs.getD i z34).f1).bind fun t => if t = true then some false else spec_confPlain.f k (xs.getD i z34).f0 ⟨#[]⟩) (fun i => (xs.take i).any (fun x => attrEq (toAt x) (toAt (xs.getD i z34))) = false) (fun i hi => by
    have hz : (xs.getD i z34).f0.size < 4611686018427387904 := by
      simp only [List.getD, List.getElem?_eq_getElem hi, Option.getD_some]
      exact hx.2 _ (List.getElem_mem hi)
    have hh := has_ev (xs.take i) (xs.getD i z34) ⟨by rw [List.length_take]; have := hx.1; omega, fun x h => hx.2 x (List.mem_of_mem_take h)⟩ hz
    obtain ⟨c, hc⟩ := conf_ev (xs.getD i z34).f0 hz
    generalize (xs.take i).any (fun x => attrEq (toAt x) (toAt (xs.getD i z34))) = b at hh ⊢
    cases b with
    | true => exact ⟨false, Ev.bind (f := fun k t => if t = true then some false else spec_confPlain.f k (xs.getD i z34).f0 ⟨#[]⟩) hh (by simpa using Ev.now false), fun e => by cases e⟩
    | false => exact ⟨c, Ev.bind (f := fun k t => if t = true then some false else spec_confPlain.f k (xs.getD i z34).f0 ⟨#[]⟩) hh (by simpa using hc), fun _ => rfl⟩)
  refine ⟨_, Ev.congr (fun k => rfl) (ev_all xs.length (fun k i => spec_RDNKnown.l0 k xs xs xs.length i) _ p (fun k i hi => ?_) hp xs.length 0 rfl (Nat.zero_le _)), fun h => ?_⟩
  · simp only [spec_RDNKnown.l0]
    by_cases hlt : i < xs.length
    · rw [if_pos (by omega), if_pos (by omega), if_pos (by omega), if_pos (by omega), if_pos hlt, wrap_succ i (by have := hx.1; omega), rd34, Int.toNat_natCast, bind_two]
    · rw [if_neg (by omega), if_neg hlt]
  · unfold Once
    rw [List.pairwise_iff_getElem]
    intro i j hi hj hij
    have hj2 : j < xs.length := by simpa using hj
    have h1 := hP j hj2 (List.all_eq_true.1 h j (by simp; omega))
    rw [List.any_eq_false] at h1
    have hi2 : i < xs.length := by simpa using hi
    have hm : xs[i] ∈ xs.take j := by
      rw [List.mem_take_iff_getElem]
      exact ⟨i, by omega, rfl⟩
    have := h1 _ hm
    simp only [List.getD, List.getElem?_eq_getElem hj2, Option.getD_some] at this
    simpa using this

theorem setKnown_ev (xs : List (List S34)) (hn : xs.length < 4611686018427387904) (hx : ∀ r ∈ xs, Fit r) : ∃ r, Ev (fun k => spec_DNSetKnown.f k xs) r ∧ (r = true → ∀ row ∈ xs, Once (row.map toAt)) := by
  obtain ⟨p, hp, hP⟩ := ev_choose xs.length (fun k i => spec_RDNKnown.f k (xs.getD i [])) (fun i => Once ((xs.getD i []).map toAt)) (fun i hi => by
    have hf : Fit (xs.getD i []) := by
      simp only [List.getD, List.getElem?_eq_getElem hi, Option.getD_some]
      exact hx _ (List.getElem_mem hi)
    exact known_ev _ hf)
  refine ⟨_, Ev.congr (fun k => rfl) (ev_all xs.length (fun k i => spec_DNSetKnown.l0 k xs xs.length i) _ p (fun k i hi => ?_) hp xs.length 0 rfl (Nat.zero_le _)), fun h row hr => ?_⟩
  · simp only [spec_DNSetKnown.l0]
    by_cases hlt : i < xs.length
    · rw [if_pos (by omega), if_pos (by omega), if_pos (by omega), if_pos hlt, wrap_succ i (by omega), rdL]
    · rw [if_neg (by omega), if_neg hlt]
  · obtain ⟨j, hj, rfl⟩ := List.getElem_of_mem hr
    have := hP j hj (List.all_eq_true.1 h j (by simp; omega))
    simpa only [List.getD, List.getElem?_eq_getElem hj, Option.getD_some] using this

theorem eqRdn_ev (a b : List S34) (ha : Fit a) (hb : Fit b) : Ev (fun k => spec_EqualRDN.f k a b) (specRdn (a.map toAt) (b.map toAt)) := by
  unfold spec_EqualRDN.f specRdn
  by_cases hl : a.length = b.length
  · rw [decide_eq_true (by simpa using hl), Bool.true_and]
    have e : hasAll (b.map toAt) (a.map toAt) = a.all fun x => b.any fun y => attrEq (toAt y) (toAt x) := by
      unfold hasAll; rw [List.all_map]; congr 1; funext x; simp only [Function.comp]; rw [List.any_map]; rfl
    rw [e, ← range_all a z34]
    refine Ev.congr (fun k => by rw [if_pos (by omega)]; rfl) (ev_all a.length (fun k i => spec_EqualRDN.l0 k b a a.length i) (fun k i => spec_dnHas.f k b (a.getD i z34).f0 (a.getD i z34).f1) _ (fun k i hi => ?_) (fun i hi => ?_) a.length 0 rfl (Nat.zero_le _))
    · simp only [spec_EqualRDN.l0]
      by_cases hlt : i < a.length
      · rw [if_pos (by omega), if_pos (by omega), if_pos (by omega), if_pos hlt, wrap_succ i (by have := ha.1; omega), rd34]
      · rw [if_neg (by omega), if_neg hlt]
    · refine has_ev b _ hb ?_
      simp only [List.getD, List.getElem?_eq_getElem hi, Option.getD_some]
      exact ha.2 _ (List.getElem_mem hi)
  · rw [decide_eq_false (by simpa using hl), Bool.false_and]
    exact Ev.congr (f := fun _ => some false) (fun k => by rw [if_neg (by omega)]) (Ev.now _)

/-- As the reference compares names. -/
theorem eqDn_ev (a b : List (List S34)) (hn : a.length < 4611686018427387904) (ha : ∀ r ∈ a, Fit r) (hb : ∀ r ∈ b, Fit r) (ho : ∀ row ∈ a, Once (row.map toAt)) : Ev (fun k => spec_EqualDN.f k a b) (dnEq (toDn a) (toDn b)) := by
  unfold spec_EqualDN.f
  by_cases hl : a.length = b.length
  · have e : dnEq (toDn a) (toDn b) = (List.range' 0 a.length).all fun i => specRdn ((a.getD i []).map toAt) ((b.getD i []).map toAt) := by
      rw [Bool.eq_iff_iff, dnEq_iff, List.all_eq_true]
      constructor
      · rintro ⟨_, h⟩ j hj
        have hj : j < a.length := by simpa using hj
        have := h j (by simpa [toDn] using hj) (by simp [toDn]; omega)
        simp only [List.getD, List.getElem?_eq_getElem hj, List.getElem?_eq_getElem (show j < b.length by omega), Option.getD_some]
        rw [← rdn_spec _ _ (ho _ (List.getElem_mem hj))]
        simpa [toDn] using this
      · intro h
        refine ⟨by simp [toDn, hl], fun j h1 h2 => ?_⟩
        have hj : j < a.length := by simpa [toDn] using h1
        have := h j (by simp; omega)
        simp only [List.getD, List.getElem?_eq_getElem hj, List.getElem?_eq_getElem (show j < b.length by omega), Option.getD_some] at this
        rw [← rdn_spec _ _ (ho _ (List.getElem_mem hj))] at this
        simpa [toDn] using this
    rw [e]
    refine Ev.congr (fun k => by rw [if_pos (by omega)]; rfl) (ev_all a.length (fun k i => spec_EqualDN.l0 k a b a.length i) (fun k i => spec_EqualRDN.f k (a.getD i []) (b.getD i [])) _ (fun k i hi => ?_) (fun i hi => ?_) a.length 0 rfl (Nat.zero_le _))
    · simp only [spec_EqualDN.l0]
      by_cases hlt : i < a.length
      · rw [if_pos (by omega), if_pos (by omega), if_pos (by omega), if_pos (by omega), if_pos hlt, wrap_succ i (by omega), rdL, rdL]
      · rw [if_neg (by omega), if_neg hlt]
    · refine eqRdn_ev _ _ ?_ ?_
      · simp only [List.getD, List.getElem?_eq_getElem hi, Option.getD_some]; exact ha _ (List.getElem_mem hi)
      · simp only [List.getD, List.getElem?_eq_getElem (show i < b.length by omega), Option.getD_some]; exact hb _ (List.getElem_mem _)
  · have e : dnEq (toDn a) (toDn b) = false := by
      unfold dnEq; rw [decide_eq_false (by simpa [toDn] using hl)]; rfl
    rw [e]
    exact Ev.congr (f := fun _ => some false) (fun k => by rw [if_neg (by omega)]) (Ev.now _)
end Go.Proofs.YtdacmcbipnnneaaDoor.PXD
