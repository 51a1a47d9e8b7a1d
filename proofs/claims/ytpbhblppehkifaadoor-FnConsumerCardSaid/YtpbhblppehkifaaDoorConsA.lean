/- What a script's answer reads as; the walk of awakeConsumer. -/
import Derived.Test.YtpbhblppehkifaaDoorSoB
namespace Go.Proofs.YtpbhblppehkifaaDoor
open Go Go.RowKit Con Go.Proofs.YtpbhblppehkifaaDoorW.PrintWords
set_option linter.unusedVariables false

def KsAt (w : World) (A : Option Addr) (oks : List Bool) : Prop := ∀ i (h : i < oks.length), ∃ ad, A = some ad ∧ w.cell? (ad.add i) = some (okV oks[i])
def StAt (w : World) (A : Option Addr) (ks : List Kp) : Prop := ∀ i (h : i < ks.length), ∃ ad A1 A2 q1 q2, A = some ad ∧ WsAt w A1 ks[i].ws ∧ RsAt w A2 ks[i].rs ∧
  w.cell? (ad.add (i * 6)) = some (.int .u64 ks[i].dc) ∧
  w.cell? ⟨(ad.add (i * 6)).block, (ad.add (i * 6)).off + 1, none⟩ = some (.int .u64 ks[i].ds) ∧
  w.cell? ⟨(ad.add (i * 6)).block, (ad.add (i * 6)).off + 2, none⟩ = some (.int .u64 ks[i].fc) ∧
  w.cell? ⟨(ad.add (i * 6)).block, (ad.add (i * 6)).off + 3, none⟩ = some (.int .u64 ks[i].fs) ∧
  w.cell? ⟨(ad.add (i * 6)).block, (ad.add (i * 6)).off + 4, none⟩ = some (.slice A1 ks[i].ws.length q1) ∧
  w.cell? ⟨(ad.add (i * 6)).block, (ad.add (i * 6)).off + 5, none⟩ = some (.slice A2 ks[i].rs.length q2) ∧ ks[i].ws.length ≤ q1 ∧ ks[i].rs.length ≤ q2

theorem flat_at {α : Type} {enc : α → List Value} {s : Nat} (hs : ∀ x, (enc x).length = s) : ∀ (l : List α) (i : Nat) (h : i < l.length) (j : Nat), j < s → (l.flatMap enc)[i * s + j]? = (enc l[i])[j]?
  | [], i, h, _, _ => absurd h (Nat.not_lt_zero _)
  | x :: l, 0, h, j, hj => by
    rw [List.flatMap_cons, List.getElem?_append_left (by rw [hs]; omega)]
    simp
  | x :: l, i + 1, h, j, hj => by
    have h1 : i < l.length := by simpa using h
    have ih := flat_at hs l i h1 j hj
    rw [List.flatMap_cons, List.getElem?_append_right (by rw [hs, Nat.add_mul]; omega), hs]
    have e : (i + 1) * s + j - s = i * s + j := by rw [Nat.add_mul]; omega
    rw [e, ih]
    rfl
theorem own_cap {w : World} {B E k n : Nat} {v : Value} {xs : List Value} (h : w.ownsRow B E k v n xs) : ∃ A c, v = .slice A n c ∧ n ≤ c ∧ ∀ (j : Nat) u, xs[j]? = some u → ∃ g, A = some ⟨g, 0, none⟩ ∧ w.cell? ⟨g, j, none⟩ = some u := by
  rcases h.2 with ⟨rfl, rfl⟩ | ⟨g, cap, cur, rfl, hb, hc, hn, hm, hs, hx⟩
  · refine ⟨none, 0, rfl, Nat.le_refl _, fun j u hu => ?_⟩
    have h1 := h.1
    rw [Nat.zero_mul] at h1
    rw [List.eq_nil_of_length_eq_zero h1] at hu
    simp at hu
  · refine ⟨some ⟨g, 0, none⟩, cap, rfl, hn, fun j u hu => ⟨g, rfl, ?_⟩⟩
    have h1 := World.ownsRow.cells h (g := g) rfl j u hu
    have e : (⟨g, 0, none⟩ : Addr).add j = ⟨g, j, none⟩ := by unfold Addr.add; split <;> simp_all
    rwa [e] at h1
theorem add_g (g j : Nat) : (⟨g, 0, none⟩ : Addr).add j = ⟨g, j, none⟩ := by unfold Addr.add; split <;> simp_all
theorem own_ks {w : World} {B n : Nat} {v : Value} {oks : List Bool} (hn : oks.length = n) (h : w.ownsRow B 3 1 v n (oks.map okV)) : ∃ A c, v = .slice A n c ∧ n ≤ c ∧ KsAt w A oks := by
  obtain ⟨A, c, rfl, hc, hr⟩ := own_cap h
  refine ⟨A, c, rfl, hc, fun i hi => ?_⟩
  obtain ⟨g, rfl, hg⟩ := hr i (okV oks[i]) (by simp [hi])
  exact ⟨_, rfl, by rw [add_g]; exact hg⟩
theorem own_ws {w : World} {B : Nat} {v : Value} {l : List (Int × Int × Int)} (h : w.ownsRow B 49 3 v l.length (l.flatMap encW)) : ∃ A c, v = .slice A l.length c ∧ l.length ≤ c ∧ WsAt w A l := by
  obtain ⟨A, c, rfl, hc, hr⟩ := own_cap h
  refine ⟨A, c, rfl, hc, fun i hi => ?_⟩
  have f : ∀ j u, j < 3 → (encW l[i])[j]? = some u → ∃ g, A = some ⟨g, 0, none⟩ ∧ w.cell? ⟨g, i * 3 + j, none⟩ = some u := fun j u hj hu => hr (i * 3 + j) u (by rw [flat_at (s := 3) (fun _ => rfl) l i hi j hj]; exact hu)
  obtain ⟨g, rfl, h0⟩ := f 0 _ (by omega) rfl
  obtain ⟨_, e1, h1⟩ := f 1 _ (by omega) rfl
  obtain ⟨_, e2, h2⟩ := f 2 _ (by omega) rfl
  cases e1; cases e2
  refine ⟨_, rfl, ?_, ?_, ?_⟩ <;> rw [add_g]
  · exact h0
  · exact h1
  · exact h2
theorem own_rs {w : World} {B : Nat} {v : Value} {l : List (Int × Int)} (h : w.ownsRow B 64 2 v l.length (l.flatMap encA)) : ∃ A c, v = .slice A l.length c ∧ l.length ≤ c ∧ RsAt w A l := by
  obtain ⟨A, c, rfl, hc, hr⟩ := own_cap h
  refine ⟨A, c, rfl, hc, fun i hi => ?_⟩
  have f : ∀ j u, j < 2 → (encA l[i])[j]? = some u → ∃ g, A = some ⟨g, 0, none⟩ ∧ w.cell? ⟨g, i * 2 + j, none⟩ = some u := fun j u hj hu => hr (i * 2 + j) u (by rw [flat_at (s := 2) (fun _ => rfl) l i hi j hj]; exact hu)
  obtain ⟨g, rfl, h0⟩ := f 0 _ (by omega) rfl
  obtain ⟨_, e1, h1⟩ := f 1 _ (by omega) rfl
  cases e1
  refine ⟨_, rfl, ?_, ?_⟩ <;> rw [add_g]
  · exact h0
  · exact h1
theorem own_sts {w : World} {B n : Nat} {v : Value} {T : List KV} (hn : T.length = n) (h : w.ownsRow B 35 6 v n (T.flatMap encT)) (hT : ∀ x ∈ T, OwnT w B x) : ∃ A c, v = .slice A n c ∧ n ≤ c ∧ StAt w A (T.map (·.1)) := by
  obtain ⟨A, c, rfl, hc, hr⟩ := own_cap h
  refine ⟨A, c, rfl, hc, fun i hi => ?_⟩
  have hi' : i < T.length := by simpa using hi
  have f : ∀ j u, j < 6 → (encT T[i])[j]? = some u → ∃ g, A = some ⟨g, 0, none⟩ ∧ w.cell? ⟨g, i * 6 + j, none⟩ = some u := fun j u hj hu => hr (i * 6 + j) u (by rw [flat_at (s := 6) (fun _ => rfl) T i hi' j hj]; exact hu)
  obtain ⟨g, rfl, h0⟩ := f 0 _ (by omega) rfl
  obtain ⟨_, e1, h1⟩ := f 1 _ (by omega) rfl
  obtain ⟨_, e2, h2⟩ := f 2 _ (by omega) rfl
  obtain ⟨_, e3, h3⟩ := f 3 _ (by omega) rfl
  obtain ⟨_, e4, h4⟩ := f 4 _ (by omega) rfl
  obtain ⟨_, e5, h5⟩ := f 5 _ (by omega) rfl
  cases e1; cases e2; cases e3; cases e4; cases e5
  obtain ⟨ow, orr⟩ := hT _ (List.getElem_mem hi')
  obtain ⟨A1, q1, ev1, hq1, hw⟩ := own_ws ow
  obtain ⟨A2, q2, ev2, hq2, hr'⟩ := own_rs orr
  rw [ev1] at h4
  rw [ev2] at h5
  rw [List.getElem_map]
  refine ⟨_, A1, A2, q1, q2, rfl, hw, hr', ?_, ?_, ?_, ?_, ?_, ?_, hq1, hq2⟩ <;> rw [add_g]
  · exact h0
  · exact h1
  · exact h2
  · exact h3
  · exact h4
  · exact h5

/-- What a script comes to, as it reads. -/
def ConsV (w w' : World) (ack : Int) (ds : List Dd) (v1 v2 : Value) : Prop := ∃ (oks : List Bool) (ks : List Kp) (k : Kp) (A1 A2 : Option Addr) (c1 c2 : Nat), Tr ack ds oks ks k ∧ v1 = .slice A1 ds.length c1 ∧ v2 = .slice A2 ds.length c2 ∧ ds.length ≤ c1 ∧ ds.length ≤ c2 ∧ KsAt w' A1 oks ∧ StAt w' A2 ks ∧ Below w.heap.size w w'
theorem ConsP.view {w w' : World} {ack : Int} {ds : List Dd} {v1 v2 : Value} (h : ConsP w w' ack ds v1 v2) : ConsV w w' ack ds v1 v2 := by
  obtain ⟨oks, T, k, htr, h1, h2, hT, hb⟩ := h
  obtain ⟨l1, l2⟩ := htr.len
  rw [List.length_map] at l2
  obtain ⟨A1, c1, rfl, q1, hk⟩ := own_ks l1 h1
  obtain ⟨A2, c2, rfl, q2, hs⟩ := own_sts l2 h2 hT
  exact ⟨oks, _, k, A1, A2, c1, c2, htr, rfl, rfl, q1, q2, hk, hs, hb⟩
theorem KsAt.later {w w' : World} {A : Option Addr} {oks : List Bool} (h : KsAt w A oks) (hb : Below w.heap.size w w') : KsAt w' A oks := fun i hi => by
  obtain ⟨ad, e, x0⟩ := h i hi
  exact ⟨ad, e, by rw [hb.cell (World.block_lt_of_cell? w _ x0)]; exact x0⟩
theorem StAt.later {w w' : World} {A : Option Addr} {ks : List Kp} (h : StAt w A ks) (hb : Below w.heap.size w w') : StAt w' A ks := fun i hi => by
  obtain ⟨ad, A1, A2, q1, q2, e, hw, hr, x0, x1, x2, x3, x4, x5, l1, l2⟩ := h i hi
  have f : ∀ (p : Addr) (v : Value), w.cell? p = some v → w'.cell? p = some v := fun p v hp => by rw [hb.cell (World.block_lt_of_cell? w _ hp)]; exact hp
  exact ⟨ad, A1, A2, q1, q2, e, hw.later hb, hr.later hb, f _ _ x0, f _ _ x1, f _ _ x2, f _ _ x3, f _ _ x4, f _ _ x5, l1, l2⟩
end Go.Proofs.YtpbhblppehkifaaDoor

namespace Go.Proofs.YtpbhblppehkifaaDoor
open Go Go.RowKit Go.MuLone Con Go.Proofs.YtpbhblppehkifaaDoorW.PrintWords
set_option linter.unusedVariables false

theorem Tr.last {ack : Int} {ds : List Dd} {d : Dd} {oks : List Bool} {ks : List Kp} {k : Kp} (h : Tr ack (ds ++ [d]) oks ks k) :
    ∃ oks0 ks0 k0 ok, oks = oks0 ++ [ok] ∧ ks = ks0 ++ [k] ∧ Tr ack ds oks0 ks0 k0 ∧ StepR ack k0 d k ok := by
  generalize e : ds ++ [d] = l at h
  cases h with
  | nil => simp at e
  | snoc h hs =>
    obtain ⟨rfl, e2⟩ := List.append_inj' e rfl
    simp only [List.cons.injEq, and_true] at e2
    subst e2
    exact ⟨_, _, _, _, rfl, rfl, h, hs⟩
theorem Tr.none {ack : Int} {oks : List Bool} {ks : List Kp} {k : Kp} (h : Tr ack [] oks ks k) : oks = [] ∧ ks = [] ∧ k = kp0 := by
  generalize e : ([] : List Dd) = l at h
  cases h with
  | nil => exact ⟨rfl, rfl, rfl⟩
  | snoc h hs => simp at e

/-- A state of nothing, and a deed of it. -/
def d1 : Dd := ⟨0, 1, 4, 1, 1000000000, ⟨0, 0, 0, 0, [], []⟩⟩
theorem snd0 : Snd ⟨0, 0, 0, 0, [], []⟩ := ⟨List.Pairwise.nil, List.Pairwise.nil, by decide, by decide, by simp, by simp, by unfold Ok16; decide, by unfold Ok16; decide, by decide, by decide, by decide, by decide⟩
theorem d1_ok : DOk d1 := ⟨Or.inl rfl, by unfold Ok16; decide, by unfold Ok16; decide, fun _ => by decide, snd0⟩
theorem ws_nil (w : World) (A : Option Addr) : WsAt w A [] := fun i h => absurd h (Nat.not_lt_zero _)
theorem rs_nil (w : World) (A : Option Addr) : RsAt w A [] := fun i h => absurd h (Nat.not_lt_zero _)
def deedC (op c s t at_ : Int) : Obj := .cells #[.int .i64 op, .int .u64 c, .int .u64 s, .int .u64 t, .int .i64 at_, .int .u64 0, .int .u64 0, .int .u64 0, .int .u64 0, .slice none 0 0, .slice none 0 0] 38 (0, 0)
theorem d1_at (w : World) : DsAt (w.alloc (deedC 0 1 4 1 1000000000)) (some ⟨w.heap.size, 0, none⟩) [d1] := fun i hi => by
  have hi0 : i = 0 := by simpa using hi
  subst hi0
  have h : ∀ j, (w.alloc (deedC 0 1 4 1 1000000000)).cell? ⟨w.heap.size, j, none⟩ = (#[Value.int .i64 0, .int .u64 1, .int .u64 4, .int .u64 1, .int .i64 1000000000, .int .u64 0, .int .u64 0, .int .u64 0, .int .u64 0, .slice none 0 0, .slice none 0 0])[j]? := fun j => cell_heap (heap_last w _)
  exact ⟨_, none, none, 0, 0, rfl, ws_nil _ _, rs_nil _ _, h 0, h 1, h 2, h 3, h 4, h 5, h 6, h 7, h 8, h 9, h 10⟩

theorem awake_last {oks : List Bool} {ks : List Kp} {k : Kp} (h : Tr 2 [d1] oks ks k) : ∃ k', oks = [true] ∧ ks = [k'] ∧ k'.ds = 4 := by
  obtain ⟨o0, k0, kk, ok, rfl, rfl, h0, hs⟩ := Tr.last (ds := []) h
  obtain ⟨rfl, rfl, rfl⟩ := h0.none
  rcases hs with ⟨_, h1⟩ | ⟨h0, _⟩ | ⟨h0, _⟩ | ⟨h0, _⟩ | ⟨h0, _⟩ | ⟨h0, _⟩
  · unfold DelR at h1
    rw [if_neg (by decide)] at h1
    obtain ⟨rfl, rfl⟩ := h1
    refine ⟨_, rfl, rfl, ?_⟩
    rw [if_neg (by decide)]
    rfl
  all_goals exact absurd h0 (by decide)

set_option maxRecDepth 100000 in
set_option maxHeartbeats 8000000 in
theorem awakeC_any (w : World) (hS : SurC w) : Calls Tryd.prog 9 #[] w fun e w' => e = .returned (.bool true) ∧ Below w.heap.size w w' := by
  have HS := hid (hS.later ((Below.refl _ _).alloc (Nat.le_refl _) (deedC 0 1 4 1 1000000000)))
  have HD := hid (d1_at w)
  clear hS
  go_enter Tryd.func9, Tryd.ntmps9
  go_wp2_with fail
  refine (cons_st 2 [d1] (some ⟨w.heap.size, 0, none⟩) 1 (w.alloc (deedC 0 1 4 1 1000000000)) (Or.inr (Or.inr rfl)) HS.out HD.out (by simpa using d1_ok) (by decide)).mono ?_
  rintro e w1 ⟨v1, v2, rfl, hp⟩
  obtain ⟨oks, ks, k, A1, A2, c1, c2, htr, rfl, rfl, q1, q2, hks, hst, hb⟩ := hp.view
  obtain ⟨k', rfl, rfl, hk4⟩ := awake_last htr
  obtain ⟨ad1, rfl, x0⟩ := hks 0 (Nat.zero_lt_one)
  obtain ⟨ad2, _, _, _, _, rfl, _, _, y0, y1, _⟩ := hst 0 (Nat.zero_lt_one)
  have hB := hid (((Below.refl w.heap.size w).alloc (Nat.le_refl _) _).trans (hb.mono (by simp)))
  have x1 : w1.cell? ad1 = some (.int .i64 0) := by simpa [okV, Addr.add_zero'] using x0
  have y2 : w1.cell? ⟨ad2.block, ad2.off + 1, none⟩ = some (.int .u64 4) := by simpa [Addr.add_zero', hk4] using y1
  clear hp hb hst hks htr x0 y0 y1 HS HD
  go_wp2_with fail
  go_ret
  exact ⟨rfl, hB.out⟩
end Go.Proofs.YtpbhblppehkifaaDoor
