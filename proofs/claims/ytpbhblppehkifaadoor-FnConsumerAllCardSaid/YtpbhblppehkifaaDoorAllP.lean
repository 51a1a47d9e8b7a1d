/- Messages delivered one by one, acknowledged in whatever order. -/
import Derived.Test.YtpbhblppehkifaaDoorConsA
namespace Go.Proofs.YtpbhblppehkifaaDoor
open Go Con
set_option linter.unusedVariables false

def gW (at_ : Int) (j : Nat) : Int × Int × Int := ((j : Int) + 1, (j : Int) + 1, at_)
def kF (m f : Nat) (at_ : Int) (U : List Nat) : Kp := ⟨m, m, f, f, U.map (gW at_), []⟩
def kz : Kp := ⟨0, 0, 0, 0, [], []⟩
def dl (at_ : Int) (i : Nat) : Dd := ⟨0, (i : Int) + 1, (i : Int) + 1, 1, at_, kz⟩
def ak (x : Nat) : Dd := ⟨1, (x : Int) + 1, (x : Int) + 1, 0, 0, kz⟩

theorem sound_form {m f : Nat} {at_ : Int} {U : List Nat} (hs : U.Pairwise (· < ·)) (hU : ∀ j ∈ U, j < m ∧ f ≤ j) (hf : f ≤ m) : Sound (kF m f at_ U) := by
  refine ⟨Int.ofNat_le.2 hf, Int.ofNat_le.2 hf, fun i x hx => ?_, fun i x hx => ?_⟩
  · have hx' : (U.map (gW at_))[i]? = some x := hx
    rw [List.getElem?_map] at hx'
    obtain ⟨j, hj, rfl⟩ := Option.map_eq_some_iff.1 hx'
    obtain ⟨hi, rfl⟩ := List.getElem?_eq_some_iff.1 hj
    obtain ⟨h1, h2⟩ := hU _ (List.getElem_mem hi)
    refine ⟨?_, ?_, ?_, ?_, fun i' y e hy => ?_⟩
    · show (f : Int) < (U[i] : Int) + 1; omega
    · show (U[i] : Int) + 1 ≤ (m : Int); omega
    · show (f : Int) < (U[i] : Int) + 1; omega
    · show (U[i] : Int) + 1 ≤ (m : Int); omega
    · have hy' : (U.map (gW at_))[i']? = some y := hy
      rw [List.getElem?_map] at hy'
      obtain ⟨j, hj, rfl⟩ := Option.map_eq_some_iff.1 hy'
      obtain ⟨hi', rfl⟩ := List.getElem?_eq_some_iff.1 hj
      have := List.pairwise_iff_getElem.1 hs i' i hi' hi (by omega)
      exact ⟨by show (U[i'] : Int) + 1 < (U[i] : Int) + 1; omega, by show (U[i'] : Int) + 1 < (U[i] : Int) + 1; omega⟩
  · have hx' : ([] : List (Int × Int))[i]? = some x := hx
    simp at hx'

theorem del_step {n : Nat} {at_ : Int} {k' : Kp} {ok : Bool} (h : StepR 2 (kF n 0 at_ (List.range n)) (dl at_ n) k' ok) : ok = true ∧ k' = kF (n + 1) 0 at_ (List.range (n + 1)) := by
  rcases h with ⟨_, h⟩ | ⟨h0, _⟩ | ⟨h0, _⟩ | ⟨h0, _⟩ | ⟨h0, _⟩ | ⟨h0, _⟩
  · unfold DelR at h
    rw [if_neg (by decide)] at h
    obtain ⟨h1, h2⟩ := h
    have e0 : ¬ ((dl at_ n).c ≤ (kF n 0 at_ (List.range n)).fc) := by show ¬ ((n : Int) + 1 ≤ 0); omega
    rw [if_neg e0] at h2
    refine ⟨h1, h2.trans ?_⟩
    have e1 : mxI (n : Int) ((n : Int) + 1) = ((n + 1 : Nat) : Int) := by unfold mxI; rw [if_pos (by omega)]; omega
    have e2 : wsD (n : Int) ((n : Int) + 1) ((n : Int) + 1) at_ ((List.range n).map (gW at_)) = (List.range (n + 1)).map (gW at_) := by
      unfold wsD
      rw [if_neg (by omega), put_last, List.range_succ, List.map_append]
      · rfl
      · intro p hp
        obtain ⟨j, hj, rfl⟩ := List.mem_map.1 hp
        have := List.mem_range.1 hj
        show (j : Int) + 1 < (n : Int) + 1
        omega
    have e3 : rsD ((n : Int) + 1) 1 [] = [] := by unfold rsD; rw [if_neg (by intro h; exact absurd h.1 (by decide))]
    show (⟨mxI (n : Int) ((n : Int) + 1), mxI (n : Int) ((n : Int) + 1), 0, 0, wsD (n : Int) ((n : Int) + 1) ((n : Int) + 1) at_ ((List.range n).map (gW at_)), rsD ((n : Int) + 1) 1 []⟩ : Kp) = _
    rw [e1, e2, e3]
    rfl
  all_goals exact absurd h0 (by show ¬ ((0 : Int) = _); decide)
/-- What is said of a state behind a deed. -/
def AllS (m i : Nat) (x : Kp) : Prop := Sound x ∧ (i < m → x.ws.length = i + 1) ∧ (m ≤ i → x.ws.length = 2 * m - 1 - i) ∧ x.rs = []
theorem del_tr {m : Nat} {at_ : Int} : ∀ (n : Nat) {oks : List Bool} {ks : List Kp} {k : Kp}, n ≤ m → Tr 2 ((List.range n).map (dl at_)) oks ks k → k = kF n 0 at_ (List.range n) ∧ (∀ b ∈ oks, b = true) ∧ ∀ i x, ks[i]? = some x → AllS m i x
  | 0, oks, ks, k, _, h => by
    obtain ⟨rfl, rfl, rfl⟩ := h.none
    exact ⟨rfl, by simp, by simp⟩
  | n + 1, oks, ks, k, hm, h => by
    rw [List.range_succ, List.map_append] at h
    obtain ⟨o0, k0, kk, ok, rfl, rfl, h0, hs⟩ := Tr.last h
    obtain ⟨rfl, h1, h2⟩ := del_tr (m := m) n (by omega) h0
    obtain ⟨rfl, rfl⟩ := del_step hs
    have hl : k0.length = n := by have := h0.len.2; simpa using this
    refine ⟨rfl, fun b hb => ?_, fun i x hx => ?_⟩
    · rcases List.mem_append.1 hb with hb | hb
      · exact h1 b hb
      · exact List.mem_singleton.1 hb
    · by_cases hi : i < n
      · rw [List.getElem?_append_left (by rw [hl]; exact hi)] at hx
        exact h2 i x hx
      · have hi' : i = n := by
          have := (List.getElem?_eq_some_iff.1 hx).1
          simp at this
          omega
        subst hi'
        rw [List.getElem?_append_right (by rw [hl]; exact Nat.le_refl _), hl] at hx
        simp at hx
        subst hx
        exact ⟨sound_form List.pairwise_lt_range (fun j hj => ⟨List.mem_range.1 hj, Nat.zero_le _⟩) (Nat.zero_le _), fun _ => by simp [kF], fun h => by omega, rfl⟩

/-- How the states are while they are acknowledged. -/
structure AckK (m : Nat) (at_ : Int) (os : List Nat) (U : List Nat) (f : Nat) : Prop where
  s : U.Pairwise (· < ·)
  b : ∀ j ∈ U, j < m ∧ f ≤ j
  e : U = [] → f = m
  i : U ≠ [] → f ∈ U
  l : U.length + os.length = m
  a : ∀ j, j < m → j ∉ os → j ∈ U
theorem AckK.le {m f : Nat} {at_ : Int} {os U : List Nat} (h : AckK m at_ os U f) : f ≤ m := by
  by_cases hU : U = []
  · exact Nat.le_of_eq (h.e hU)
  · exact Nat.le_of_lt (h.b f (h.i hU)).1
theorem get_form {at_ : Int} {U : List Nat} {x : Nat} (hx : x ∈ U) : getL ((x : Int) + 1) (U.map (gW at_)) = some ((x : Int) + 1, at_) := by
  unfold getL
  induction U with
  | nil => simp at hx
  | cons y U ih =>
    rw [List.map_cons, List.find?_cons]
    by_cases h : y = x
    · subst h
      simp [gW]
    · have : ((gW at_ y).1 == (x : Int) + 1) = false := by
        show ((y : Int) + 1 == (x : Int) + 1) = false
        simp
        omega
      rw [this]
      exact ih (by rcases List.mem_cons.1 hx with h1 | h1; exact absurd h1.symm h; exact h1)
theorem del_form {at_ : Int} {U : List Nat} {x : Nat} : delL ((x : Int) + 1) (U.map (gW at_)) = (U.filter (fun y => y != x)).map (gW at_) := by
  unfold delL
  rw [List.filter_map]
  congr 1
  refine List.filter_congr fun y hy => ?_
  show (!((y : Int) + 1 == (x : Int) + 1)) = (y != x)
  by_cases h : y = x
  · subst h; simp
  · have h1 : ((y : Int) + 1 == (x : Int) + 1) = false := by simp; omega
    rw [h1]
    simp [h]
theorem ack_step {m f x : Nat} {at_ : Int} {os U : List Nat} {k' : Kp} {ok : Bool} (hk : AckK m at_ os U f) (hx : x < m) (hno : x ∉ os) (h : StepR 2 (kF m f at_ U) (ak x) k' ok) :
    ok = true ∧ ∃ U' f', AckK m at_ (os ++ [x]) U' f' ∧ k' = kF m f' at_ U' := by
  have hxU := hk.a x hx hno
  rcases h with ⟨h0, _⟩ | ⟨_, h⟩ | ⟨h0, _⟩ | ⟨h0, _⟩ | ⟨h0, _⟩ | ⟨h0, _⟩
  case inr.inl =>
    unfold AckR at h
    rw [if_neg (by decide)] at h
    have e0 : ¬ ((ak x).c ≤ (kF m f at_ U).fc) := by show ¬ ((x : Int) + 1 ≤ (f : Int)); have := (hk.b x hxU).2; omega
    rw [if_neg e0] at h
    have eg : getL (ak x).s (kF m f at_ U).ws = some ((x : Int) + 1, at_) := get_form hxU
    rw [eg] at h
    simp only at h
    rw [if_neg (by decide)] at h
    obtain ⟨h1, fc', fs', h2, hF⟩ := h
    refine ⟨h1, ?_⟩
    have ed : delL (ak x).s (kF m f at_ U).ws = (U.filter (fun y => y != x)).map (gW at_) := del_form
    rw [ed] at hF h2
    have eo : own1V (ak x).c ((x : Int) + 1, at_) = (x : Int) + 1 := by
      unfold own1V
      rw [if_neg (by intro h; exact absurd h.1 (by show ¬ ((x : Int) + 1 < (x : Int) + 1); omega))]
      rfl
    rw [eo] at hF
    have hl : (U.filter (fun y => y != x)).length + 1 = U.length := by
      have hnd : U.Nodup := hk.s.imp (fun h => by omega)
      have h3 := List.length_erase_of_mem hxU
      rw [List.Nodup.erase_eq_filter hnd] at h3
      have : 0 < U.length := List.length_pos_of_mem hxU
      omega
    have hs' : (U.filter (fun y => y != x)).Pairwise (· < ·) := hk.s.filter _
    have hmem : ∀ {j}, j ∈ U.filter (fun y => y != x) ↔ j ∈ U ∧ j ≠ x := by
      intro j; simp
    have hl' : (U.filter (fun y => y != x)).length + (os ++ [x]).length = m := by have := hk.l; simp only [List.length_append, List.length_singleton]; omega
    have ha' : ∀ j, j < m → j ∉ os ++ [x] → j ∈ U.filter (fun y => y != x) := fun j hj hn => hmem.2 ⟨hk.a j hj (fun h => hn (by simp [h])), fun h => hn (by simp [h])⟩
    have fin : ∀ f' : Nat, fc' = (f' : Int) → fs' = (f' : Int) → AckK m at_ (os ++ [x]) (U.filter (fun y => y != x)) f' → ∃ U' f', AckK m at_ (os ++ [x]) U' f' ∧ k' = kF m f' at_ U' := fun f' e1 e2 hA =>
      ⟨_, f', hA, by rw [h2, e1, e2]; rfl⟩
    rcases hF with ⟨hV, e1, e2⟩ | ⟨hV, hc, e1, e2⟩ | ⟨hV, hc, hF⟩
    · have hV' : U.filter (fun y => y != x) = [] := by simpa using hV
      exact fin m e1 e2 ⟨hs', by rw [hV']; simp, fun _ => rfl, fun h => absurd hV' h, hl', ha'⟩
    · have hV' : U.filter (fun y => y != x) ≠ [] := fun h => hV (by rw [h]; rfl)
      have hc' : x ≠ f := fun e => hc (by show (x : Int) + 1 = (f : Int) + 1; omega)
      exact fin f e1 e2 ⟨hs', fun j hj => hk.b j (hmem.1 hj).1, fun h => absurd h hV', fun _ => hmem.2 ⟨hk.i (List.ne_nil_of_mem hxU), fun e => hc' e.symm⟩, hl', ha'⟩
    · have hxf : x = f := by have hc' : (x : Int) + 1 = (f : Int) + 1 := hc; omega
      have hV' : U.filter (fun y => y != x) ≠ [] := fun h => hV (by rw [h]; rfl)
      rcases hF with ⟨hF, _⟩ | ⟨y, hy, h3, h4, h5, e1, e2⟩
      · exfalso
        obtain ⟨j, hj⟩ := List.exists_mem_of_ne_nil _ hV'
        obtain ⟨hjU, hjx⟩ := hmem.1 hj
        have hb := hk.b j hjU
        rcases hF with hF | hF
        · have hF' : (m : Int) ≤ (x : Int) + 1 := hF
          omega
        · exact hF (gW at_ j) (List.mem_map.2 ⟨j, hj, rfl⟩) ⟨by show (x : Int) + 1 < (j : Int) + 1; omega, by show (j : Int) + 1 ≤ (m : Int); omega⟩
      · obtain ⟨j, hj, rfl⟩ := List.mem_map.1 hy
        have ej : 0 < (gW at_ j).2.1 := by show (0 : Int) < (j : Int) + 1; omega
        rw [if_pos ej] at e1 e2
        have e1' : fc' = (j : Int) := by rw [e1]; show (j : Int) + 1 - 1 = j; omega
        have e2' : fs' = (j : Int) := by rw [e2]; show (j : Int) + 1 - 1 = j; omega
        refine fin j e1' e2' ⟨hs', fun z hz => ?_, fun h => absurd h hV', fun _ => hj, hl', ha'⟩
        obtain ⟨hzU, hzx⟩ := hmem.1 hz
        have hb := hk.b z hzU
        have h6 := h5 (gW at_ z) (List.mem_map.2 ⟨z, hz, rfl⟩)
        refine ⟨hb.1, ?_⟩
        by_cases hlt : z < j
        · exact absurd ⟨by show (x : Int) + 1 < (z : Int) + 1; omega, by show (z : Int) + 1 < (j : Int) + 1; omega⟩ h6
        · omega
  all_goals exact absurd h0 (by show ¬ ((1 : Int) = _); decide)

theorem ack_tr {m : Nat} {at_ : Int} (hm : 0 < m) : ∀ (n : Nat) (os : List Nat) {oks : List Bool} {ks : List Kp} {k : Kp}, os.length = n → os.Nodup → (∀ x ∈ os, x < m) → Tr 2 ((List.range m).map (dl at_) ++ os.map ak) oks ks k →
    (∃ U f, AckK m at_ os U f ∧ k = kF m f at_ U) ∧ (∀ b ∈ oks, b = true) ∧ ∀ i x, ks[i]? = some x → AllS m i x
  | 0, os, oks, ks, k, hn, _, _, h => by
    obtain rfl := List.eq_nil_of_length_eq_zero hn
    rw [List.map_nil, List.append_nil] at h
    obtain ⟨rfl, h1, h2⟩ := del_tr m (Nat.le_refl _) h
    exact ⟨⟨_, 0, ⟨List.pairwise_lt_range, fun j hj => ⟨List.mem_range.1 hj, Nat.zero_le _⟩, fun h => by have := congrArg List.length h; simp at this; omega, fun _ => List.mem_range.2 hm, by simp, fun j hj _ => List.mem_range.2 hj⟩, rfl⟩, h1, h2⟩
  | n + 1, os, oks, ks, k, hn, hd, hb, h => by
    have hne : os ≠ [] := fun e => by rw [e] at hn; simp at hn
    obtain ⟨os', x, rfl⟩ : ∃ os' x, os = os' ++ [x] := ⟨os.dropLast, os.getLast hne, (List.dropLast_concat_getLast hne).symm⟩
    rw [List.map_append, ← List.append_assoc] at h
    obtain ⟨o0, k0, kk, ok, rfl, rfl, h0, hs⟩ := Tr.last h
    have hd' := List.nodup_append.1 hd
    obtain ⟨⟨U, f, hA, rfl⟩, h1, h2⟩ := ack_tr hm n os' (by simpa using hn) hd'.1 (fun x hx => hb x (by simp [hx])) h0
    have hxn : x ∉ os' := fun hx => hd'.2.2 x hx x (by simp) rfl
    obtain ⟨rfl, U', f', hA', rfl⟩ := ack_step hA (hb x (by simp)) hxn hs
    have hl : k0.length = m + n := by have := h0.len.2; simp at this hn; omega
    refine ⟨⟨U', f', hA', rfl⟩, fun b hb => ?_, fun i y hy => ?_⟩
    · rcases List.mem_append.1 hb with hb | hb
      · exact h1 b hb
      · exact List.mem_singleton.1 hb
    · by_cases hi : i < m + n
      · rw [List.getElem?_append_left (by rw [hl]; exact hi)] at hy
        exact h2 i y hy
      · have hi' : i = m + n := by
          have := (List.getElem?_eq_some_iff.1 hy).1
          simp at this
          omega
        subst hi'
        rw [List.getElem?_append_right (by rw [hl]; exact Nat.le_refl _), hl] at hy
        simp at hy
        subst hy
        refine ⟨sound_form hA'.s hA'.b hA'.le, fun h => by omega, fun _ => ?_, rfl⟩
        have := hA'.l
        show (U'.map (gW at_)).length = _
        rw [List.length_map]
        simp at this hn
        omega
end Go.Proofs.YtpbhblppehkifaaDoor
