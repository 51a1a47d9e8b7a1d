/- The reference's lists: what its small functions come to. -/
import Derived.Test.YtpbhblppehkifaaDoorPFnConsumerx5
import Derived.Test.YtpbhblppehkifaaDoorPFnConsumerx6
import Derived.Test.YtpbhblppehkifaaDoorInn
namespace Go.Proofs.YtpbhblppehkifaaDoor
open Go Go.RowKit Con Go.Proofs.YtpbhblppehkifaaDoorW.PrintWords PFnConsumer
set_option linter.unusedVariables false

/-- A list with one more, in order. -/
def wth {α : Type} (key : α → Int) (x : α) : Bool → List α → List α
  | d, [] => if d = true then [] else [x]
  | d, y :: l => (if d = false ∧ key x ≤ key y then [x] else []) ++ ((if key y = key x then [] else [y]) ++ wth key x (d || decide (key x ≤ key y)) l)
theorem wth_map {α β : Type} (f : α → β) {key : α → Int} {key' : β → Int} (hk : ∀ x, key' (f x) = key x) (x : α) : ∀ (d : Bool) (l : List α), (wth key x d l).map f = wth key' (f x) d (l.map f)
  | d, [] => by cases d <;> simp [wth]
  | d, y :: l => by
    simp only [wth, List.map_append, List.map_cons, hk, wth_map f hk x]
    congr 1
    · split <;> simp
    · congr 1
      split <;> simp
theorem wth_done {β : Type} (s : Int) (v : β) : ∀ l : List (Int × β), wth (·.1) (s, v) true l = delL s l
  | [] => by simp [wth, delL]
  | y :: l => by
    have ih := wth_done s v l
    simp only [wth, Bool.true_or, ih, delL, List.filter_cons]
    by_cases h : y.1 = s <;> simp [h]
theorem ins_low {β : Type} {x : Int × β} : ∀ {G : List (Int × β)}, (∀ p ∈ G, x.1 < p.1) → ins x G = x :: G
  | [], _ => rfl
  | y :: G, h => by
    unfold ins
    rw [if_pos (h y (by simp))]
theorem wth_put {β : Type} (s : Int) (v : β) : ∀ {l : List (Int × β)}, Srt l → wth (·.1) (s, v) false l = putL s v l
  | [], _ => by simp [wth, putL, delL, ins]
  | y :: l, h => by
    have h' := List.pairwise_cons.1 h
    by_cases hle : s ≤ y.1
    · have e : wth (·.1) (s, v) false (y :: l) = (s, v) :: delL s (y :: l) := by
        simp only [wth, Bool.false_or, decide_eq_true hle, wth_done]
        simp only [delL, List.filter_cons]
        by_cases hy : y.1 = s <;> simp [hy, hle]
      rw [e]
      unfold putL
      rw [ins_low]
      intro p hp
      obtain ⟨hp1, hp2⟩ := mem_delL.1 hp
      show s < p.1
      rcases List.mem_cons.1 hp1 with rfl | hp1
      · omega
      · have := h'.1 p hp1; omega
    · have ih := wth_put s v h'.2
      have hy : y.1 ≠ s := by omega
      have e : wth (·.1) (s, v) false (y :: l) = y :: putL s v l := by
        simp only [wth, Bool.false_or, decide_eq_false hle, ih]
        simp [hle, hy]
      rw [e]
      have ed : delL s (y :: l) = y :: delL s l := by simp [delL, hy]
      unfold putL
      rw [ed]
      show _ = (if s < y.1 then (s, v) :: y :: delL s l else y :: ins (s, v) (delL s l))
      rw [if_neg (by omega)]

def w3 (x : S49) : Int × Int × Int := (x.f0, x.f1, x.f2)
def r2 (x : S64) : Int × Int := (x.f0, x.f1)
def s49 (p : Int × Int × Int) : S49 := ⟨p.1, p.2.1, p.2.2⟩
def s64 (p : Int × Int) : S64 := ⟨p.1, p.2⟩
theorem w3_s49 (l : List (Int × Int × Int)) : (l.map s49).map w3 = l := by rw [List.map_map]; exact List.map_id'' (fun x => rfl) l
theorem r2_s64 (l : List (Int × Int)) : (l.map s64).map r2 = l := by rw [List.map_map]; exact List.map_id'' (fun x => rfl) l
theorem rd49 (l : List S49) (i : Nat) (h : i < l.length) : rd_T49 l (i : Int) = l[i] := by simp [rd_T49, h]
theorem rd64 (l : List S64) (i : Nat) (h : i < l.length) : rd_T64 l (i : Int) = l[i] := by simp [rd_T64, h]
theorem wr1 {i : Nat} (h : i < 100000) : wrap64 ((i : Int) + 1) = ((i + 1 : Nat) : Int) := by unfold wrap64; omega

theorem above49 (l : List S49) (s : Int) (hl : l.length < 100000) : ∀ (n i : Nat) (out : List S49), l.length - i ≤ n → i ≤ l.length → out.length ≤ i →
    spec_waitsAbove.l0 (n + 1) l s out (i : Int) = some (out ++ (l.drop i).filter (fun x => decide (s < x.f0)))
  | n, i, out, hn, hi, ho => by
    unfold spec_waitsAbove.l0
    by_cases hlt : i < l.length
    · obtain ⟨m, rfl⟩ : ∃ m, n = m + 1 := ⟨n - 1, by omega⟩
      rw [if_pos (by omega), if_pos (by omega), rd49 l i hlt, wr1 (by omega), List.drop_eq_getElem_cons hlt, List.filter_cons]
      by_cases h : l[i].f0 > s
      · rw [if_pos h, if_pos (by omega), above49 l s hl m (i + 1) _ (by omega) (by omega) (by simp; omega), if_pos (decide_eq_true h)]
        simp
      · rw [if_neg h, above49 l s hl m (i + 1) _ (by omega) (by omega) (by omega), if_neg (by simpa using h)]
    · rw [if_neg (by omega), List.drop_eq_nil_of_le (by omega)]
      simp
theorem above64 (l : List S64) (s : Int) (hl : l.length < 100000) : ∀ (n i : Nat) (out : List S64), l.length - i ≤ n → i ≤ l.length → out.length ≤ i →
    spec_againsAbove.l0 (n + 1) l s out (i : Int) = some (out ++ (l.drop i).filter (fun x => decide (s < x.f0)))
  | n, i, out, hn, hi, ho => by
    unfold spec_againsAbove.l0
    by_cases hlt : i < l.length
    · obtain ⟨m, rfl⟩ : ∃ m, n = m + 1 := ⟨n - 1, by omega⟩
      rw [if_pos (by omega), if_pos (by omega), rd64 l i hlt, wr1 (by omega), List.drop_eq_getElem_cons hlt, List.filter_cons]
      by_cases h : l[i].f0 > s
      · rw [if_pos h, if_pos (by omega), above64 l s hl m (i + 1) _ (by omega) (by omega) (by simp; omega), if_pos (decide_eq_true h)]
        simp
      · rw [if_neg h, above64 l s hl m (i + 1) _ (by omega) (by omega) (by omega), if_neg (by simpa using h)]
    · rw [if_neg (by omega), List.drop_eq_nil_of_le (by omega)]
      simp
theorem but64 (l : List S64) (s : Int) (hl : l.length < 100000) : ∀ (n i : Nat) (out : List S64), l.length - i ≤ n → i ≤ l.length → out.length ≤ i →
    spec_againsBut.l0 (n + 1) l s out (i : Int) = some (out ++ (l.drop i).filter (fun x => !(x.f0 == s)))
  | n, i, out, hn, hi, ho => by
    unfold spec_againsBut.l0
    by_cases hlt : i < l.length
    · obtain ⟨m, rfl⟩ : ∃ m, n = m + 1 := ⟨n - 1, by omega⟩
      rw [if_pos (by omega), if_pos (by omega), rd64 l i hlt, wr1 (by omega), List.drop_eq_getElem_cons hlt, List.filter_cons]
      by_cases h : l[i].f0 = s
      · rw [if_pos h, but64 l s hl m (i + 1) _ (by omega) (by omega) (by omega), if_neg (by simp [h])]
      · rw [if_neg h, if_pos (by omega), but64 l s hl m (i + 1) _ (by omega) (by omega) (by simp; omega), if_pos (by simp [h])]
        simp
    · rw [if_neg (by omega), List.drop_eq_nil_of_le (by omega)]
      simp
theorem times64 (l : List S64) (s : Int) (hl : l.length < 100000) : ∀ (n i : Nat), l.length - i ≤ n → i ≤ l.length →
    spec_timesOf.l0 (n + 1) l s (i : Int) = some ((((l.drop i).find? (fun x => x.f0 == s)).map (·.f1)).getD 0)
  | n, i, hn, hi => by
    unfold spec_timesOf.l0
    by_cases hlt : i < l.length
    · obtain ⟨m, rfl⟩ : ∃ m, n = m + 1 := ⟨n - 1, by omega⟩
      rw [if_pos (by omega), if_pos (by omega), rd64 l i hlt, wr1 (by omega), List.drop_eq_getElem_cons hlt, List.find?_cons]
      by_cases h : l[i].f0 = s
      · rw [if_pos h]
        simp [h]
      · rw [if_neg h, times64 l s hl m (i + 1) (by omega) (by omega)]
        have : (l[i].f0 == s) = false := by simp [h]
        rw [this]
    · rw [if_neg (by omega), List.drop_eq_nil_of_le (by omega)]
      simp
theorem with49 (l : List S49) (x : S49) (hl : l.length < 100000) : ∀ (n i : Nat) (out : List S49) (d : Bool), l.length - i ≤ n → i ≤ l.length → out.length ≤ 2 * i →
    spec_withWait.l0 (2 * n + 1) l out d (i : Int) x.f0 x.f1 x.f2 = some (out ++ wth (·.f0) x d (l.drop i))
  | n, i, out, d, hn, hi, ho => by
    rw [spec_withWait.l0]
    by_cases hlt : i < l.length
    · obtain ⟨m, rfl⟩ : ∃ m, n = m + 1 := ⟨n - 1, by omega⟩
      have ih := fun (out : List S49) (d : Bool) (h : out.length ≤ 2 * (i + 1)) => with49 l x hl m (i + 1) out d (by omega) (by omega) h
      have e2 : 2 * (m + 1) = 2 * m + 1 + 1 := by omega
      rw [if_pos (by omega), e2, List.drop_eq_getElem_cons hlt]
      have hj : ∀ b : Bool, (b = true → d = false) → (b = (decide (d = false ∧ x.f0 ≤ l[i].f0))) → spec_withWait.j1 (2 * m + 1 + 1) l out d (i : Int) b x.f0 x.f1 x.f2 = some (out ++ wth (·.f0) x d (l[i] :: l.drop (i + 1))) := fun b hb he => by
        rw [spec_withWait.j1]
        cases b with
        | true =>
          obtain ⟨h1, h2⟩ := of_decide_eq_true he.symm
          rw [if_pos rfl, if_pos (by omega)]
          simp only [Option.bind_some, wth]
          rw [if_pos (by omega), if_pos (by omega), rd49 l i hlt, wr1 (by omega)]
          subst h1
          by_cases hq : l[i].f0 = x.f0
          · rw [if_pos hq, ih _ _ (by simp; omega), if_pos ⟨rfl, h2⟩, if_pos hq, decide_eq_true h2]
            simp
          · rw [if_neg hq, if_pos (by simp; omega), ih _ _ (by simp; omega), if_pos ⟨rfl, h2⟩, if_neg hq, decide_eq_true h2]
            simp
        | false =>
          have h1 := of_decide_eq_false he.symm
          rw [if_neg (by simp), if_pos (by omega), if_pos (by omega), rd49 l i hlt, wr1 (by omega)]
          simp only [wth]
          rw [if_neg h1]
          have hd : (d || decide (x.f0 ≤ l[i].f0)) = d := by
            cases d with
            | true => rfl
            | false =>
              have : ¬ x.f0 ≤ l[i].f0 := fun h => h1 ⟨rfl, h⟩
              simp [this]
          rw [hd]
          by_cases hq : l[i].f0 = x.f0
          · rw [if_pos hq, ih _ _ (by omega), if_pos hq]
            simp
          · rw [if_neg hq, if_pos (by omega), ih _ _ (by simp; omega), if_neg hq]
            simp
      cases d with
      | true => rw [if_pos rfl]; exact hj false (by simp) (by simp)
      | false => rw [if_neg (by simp), if_pos (by omega), rd49 l i hlt]; exact hj _ (by simp) (by simp)
    · rw [if_neg (by omega), List.drop_eq_nil_of_le (by omega)]
      cases d with
      | true => simp [wth]
      | false => rw [if_neg (by simp), if_pos (by omega)]; simp [wth]
theorem with64 (l : List S64) (x : S64) (hl : l.length < 100000) : ∀ (n i : Nat) (out : List S64) (d : Bool), l.length - i ≤ n → i ≤ l.length → out.length ≤ 2 * i →
    spec_withAgain.l0 (2 * n + 1) l out d (i : Int) x.f0 x.f1 = some (out ++ wth (·.f0) x d (l.drop i))
  | n, i, out, d, hn, hi, ho => by
    rw [spec_withAgain.l0]
    by_cases hlt : i < l.length
    · obtain ⟨m, rfl⟩ : ∃ m, n = m + 1 := ⟨n - 1, by omega⟩
      have ih := fun (out : List S64) (d : Bool) (h : out.length ≤ 2 * (i + 1)) => with64 l x hl m (i + 1) out d (by omega) (by omega) h
      have e2 : 2 * (m + 1) = 2 * m + 1 + 1 := by omega
      rw [if_pos (by omega), e2, List.drop_eq_getElem_cons hlt]
      have hj : ∀ b : Bool, (b = true → d = false) → (b = (decide (d = false ∧ x.f0 ≤ l[i].f0))) → spec_withAgain.j1 (2 * m + 1 + 1) l out d (i : Int) b x.f0 x.f1 = some (out ++ wth (·.f0) x d (l[i] :: l.drop (i + 1))) := fun b hb he => by
        rw [spec_withAgain.j1]
        cases b with
        | true =>
          obtain ⟨h1, h2⟩ := of_decide_eq_true he.symm
          rw [if_pos rfl, if_pos (by omega)]
          simp only [Option.bind_some, wth]
          rw [if_pos (by omega), if_pos (by omega), rd64 l i hlt, wr1 (by omega)]
          subst h1
          by_cases hq : l[i].f0 = x.f0
          · rw [if_pos hq, ih _ _ (by simp; omega), if_pos ⟨rfl, h2⟩, if_pos hq, decide_eq_true h2]
            simp
          · rw [if_neg hq, if_pos (by simp; omega), ih _ _ (by simp; omega), if_pos ⟨rfl, h2⟩, if_neg hq, decide_eq_true h2]
            simp
        | false =>
          have h1 := of_decide_eq_false he.symm
          rw [if_neg (by simp), if_pos (by omega), if_pos (by omega), rd64 l i hlt, wr1 (by omega)]
          simp only [wth]
          rw [if_neg h1]
          have hd : (d || decide (x.f0 ≤ l[i].f0)) = d := by
            cases d with
            | true => rfl
            | false =>
              have : ¬ x.f0 ≤ l[i].f0 := fun h => h1 ⟨rfl, h⟩
              simp [this]
          rw [hd]
          by_cases hq : l[i].f0 = x.f0
          · rw [if_pos hq, ih _ _ (by omega), if_pos hq]
            simp
          · rw [if_neg hq, if_pos (by omega), ih _ _ (by simp; omega), if_neg hq]
            simp
      cases d with
      | true => rw [if_pos rfl]; exact hj false (by simp) (by simp)
      | false => rw [if_neg (by simp), if_pos (by omega), rd64 l i hlt]; exact hj _ (by simp) (by simp)
    · rw [if_neg (by omega), List.drop_eq_nil_of_le (by omega)]
      cases d with
      | true => simp [wth]
      | false => rw [if_neg (by simp), if_pos (by omega)]; simp [wth]
end Go.Proofs.YtpbhblppehkifaaDoor
