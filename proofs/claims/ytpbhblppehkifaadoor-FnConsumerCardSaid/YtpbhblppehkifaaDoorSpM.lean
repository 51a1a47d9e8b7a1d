/- The reference's small functions, as they lie in memory. -/
import Derived.Test.YtpbhblppehkifaaDoorConsQ
namespace Go.Proofs.YtpbhblppehkifaaDoor
open Go Go.RowKit Con Go.Proofs.YtpbhblppehkifaaDoorW.PrintWords PFnConsumer
set_option linter.unusedVariables false

/-- Lists in memory: read from below, or of blocks of their own kind. -/
def WsO (w : World) (B : Nat) (A : Option Addr) (l : List (Int × Int × Int)) : Prop := WsAt w A l ∧ (l ≠ [] → ∃ ad, A = some ad ∧ (ad.block < B ∨ ∃ cs, w.heap[ad.block]? = some (.cells cs 49 (0, 0))))
def RsO (w : World) (B : Nat) (A : Option Addr) (l : List (Int × Int)) : Prop := RsAt w A l ∧ (l ≠ [] → ∃ ad, A = some ad ∧ (ad.block < B ∨ ∃ cs, w.heap[ad.block]? = some (.cells cs 64 (0, 0))))
theorem WsO.later {w w' : World} {B : Nat} {A : Option Addr} {l : List (Int × Int × Int)} (h : WsO w B A l) (hb : Below w.heap.size w w') : WsO w' B A l := ⟨h.1.later hb, fun hl => by
  obtain ⟨ad, e, h1⟩ := h.2 hl
  refine ⟨ad, e, h1.imp id fun ⟨cs, hc⟩ => ⟨cs, ?_⟩⟩
  rw [hb.block _ (Array.getElem?_eq_some_iff.1 hc).1]
  exact hc⟩
theorem RsO.later {w w' : World} {B : Nat} {A : Option Addr} {l : List (Int × Int)} (h : RsO w B A l) (hb : Below w.heap.size w w') : RsO w' B A l := ⟨h.1.later hb, fun hl => by
  obtain ⟨ad, e, h1⟩ := h.2 hl
  refine ⟨ad, e, h1.imp id fun ⟨cs, hc⟩ => ⟨cs, ?_⟩⟩
  rw [hb.block _ (Array.getElem?_eq_some_iff.1 hc).1]
  exact hc⟩
theorem add_pos' (b : Addr) (m j : Nat) (hj : 0 < j) : b.add (m + j) = ⟨(b.add m).block, (b.add m).off + j, none⟩ := by
  unfold Addr.add
  by_cases h1 : m = 0
  · rw [if_neg (by omega), if_pos h1]
    subst h1
    simp
  · rw [if_neg (by omega), if_neg h1]
    simp [Nat.add_assoc]
theorem c49_of {w : World} {A : Option Addr} {l : List (Int × Int × Int)} (h : WsAt w A l) (hl : l.length < 100000) : Kd.C k49 w A (l.map s49).length (l.map s49) := by
  have hn : (l.map s49).length = l.length := List.length_map _
  refine ⟨rfl, by rw [hn]; omega, fun hp => ?_⟩
  obtain ⟨ad, rfl, _⟩ := h 0 (by omega)
  refine ⟨ad, rfl, fun j q hq => ⟨_, rfl, k49_mk w q, fun i u hu => ?_⟩⟩
  rw [List.getElem?_map] at hq
  obtain ⟨x, hx, rfl⟩ := Option.map_eq_some_iff.1 hq
  obtain ⟨hj, rfl⟩ := List.getElem?_eq_some_iff.1 hx
  obtain ⟨ad', e, x0, x1, x2⟩ := h j hj
  cases e
  show w.cell? (ad.add (j * 3 + i)) = some u
  match i, hu with
  | 0, hu => cases hu; exact x0
  | 1, hu => cases hu; rw [add_pos' _ _ 1 (by omega)]; exact x1
  | 2, hu => cases hu; rw [add_pos' _ _ 2 (by omega)]; exact x2
  | i + 3, hu => simp at hu
theorem c64_of {w : World} {A : Option Addr} {l : List (Int × Int)} (h : RsAt w A l) (hl : l.length < 100000) : Kd.C k64 w A (l.map s64).length (l.map s64) := by
  have hn : (l.map s64).length = l.length := List.length_map _
  refine ⟨rfl, by rw [hn]; omega, fun hp => ?_⟩
  obtain ⟨ad, rfl, _⟩ := h 0 (by omega)
  refine ⟨ad, rfl, fun j q hq => ⟨_, rfl, k64_mk w q, fun i u hu => ?_⟩⟩
  rw [List.getElem?_map] at hq
  obtain ⟨x, hx, rfl⟩ := Option.map_eq_some_iff.1 hq
  obtain ⟨hj, rfl⟩ := List.getElem?_eq_some_iff.1 hx
  obtain ⟨ad', e, x0, x1⟩ := h j hj
  cases e
  show w.cell? (ad.add (j * 2 + i)) = some u
  match i, hu with
  | 0, hu => cases hu; exact x0
  | 1, hu => cases hu; rw [add_pos' _ _ 1 (by omega)]; exact x1
  | i + 2, hu => simp at hu
theorem wsAt_of {w : World} {A : Option Addr} {l : List S49} (h : Kd.C k49 w A l.length l) : WsAt w A (l.map w3) := fun i hi => by
  have hl : i < l.length := by simpa using hi
  obtain ⟨ad, e, x0, x1, x2⟩ := at_T49 h (i : Int) (by omega) (by omega)
  rw [rd49 l i hl] at x0 x1 x2
  rw [Int.toNat_natCast] at x0 x1 x2
  rw [List.getElem_map]
  exact ⟨ad, e, x0, x1, x2⟩
theorem rsAt_of {w : World} {A : Option Addr} {l : List S64} (h : Kd.C k64 w A l.length l) : RsAt w A (l.map r2) := fun i hi => by
  have hl : i < l.length := by simpa using hi
  obtain ⟨ad, e, x0, x1⟩ := at_T64 h (i : Int) (by omega) (by omega)
  rw [rd64 l i hl] at x0 x1
  rw [Int.toNat_natCast] at x0 x1
  rw [List.getElem_map]
  exact ⟨ad, e, x0, x1⟩
theorem wsO_of {w : World} {base B : Nat} {ok : Nat → Prop} {v : Value} {r : List S49} (h : Kd.R k49 49 w base ok v r) : ∃ A c, v = .slice A (r.map w3).length c ∧ (r.map w3).length ≤ c ∧ WsO w B A (r.map w3) := by
  obtain ⟨A, c, rfl, hc, hC⟩ := Kd.R_reads h
  obtain ⟨inner, ho⟩ := Kd.R_own h
  rw [List.length_map]
  refine ⟨A, c, rfl, hc, wsAt_of hC, fun hl => ?_⟩
  have hp : 0 < r.length := by
    cases r with
    | nil => simp at hl
    | cons x r => simp
  obtain ⟨ad, e, _⟩ := wsAt_of hC 0 (by simpa using hp)
  subst e
  obtain ⟨cs, hcs⟩ := own_typed ho ad.block rfl
  exact ⟨ad, rfl, Or.inr ⟨cs, hcs⟩⟩
theorem rsO_of {w : World} {base B : Nat} {ok : Nat → Prop} {v : Value} {r : List S64} (h : Kd.R k64 64 w base ok v r) : ∃ A c, v = .slice A (r.map r2).length c ∧ (r.map r2).length ≤ c ∧ RsO w B A (r.map r2) := by
  obtain ⟨A, c, rfl, hc, hC⟩ := Kd.R_reads h
  obtain ⟨inner, ho⟩ := Kd.R_own h
  rw [List.length_map]
  refine ⟨A, c, rfl, hc, rsAt_of hC, fun hl => ?_⟩
  have hp : 0 < r.length := by
    cases r with
    | nil => simp at hl
    | cons x r => simp
  obtain ⟨ad, e, _⟩ := rsAt_of hC 0 (by simpa using hp)
  subst e
  obtain ⟨cs, hcs⟩ := own_typed ho ad.block rfl
  exact ⟨ad, rfl, Or.inr ⟨cs, hcs⟩⟩

def OutW (B : Nat) (l : List (Int × Int × Int)) (w : World) (e : Ending) (w' : World) : Prop := ∃ A c, e = .returned (.slice A l.length c) ∧ l.length ≤ c ∧ WsO w' B A l ∧ Below w.heap.size w w'
def OutR (B : Nat) (l : List (Int × Int)) (w : World) (e : Ending) (w' : World) : Prop := ∃ A c, e = .returned (.slice A l.length c) ∧ l.length ≤ c ∧ RsO w' B A l ∧ Below w.heap.size w w'

theorem withWait_any (B : Nat) (A : Option Addr) (c : Nat) (l : List (Int × Int × Int)) (x : Int × Int × Int) (w : World) (h : WsAt w A l) (hc : l.length ≤ c) (hl : l.length < 100000) :
    Calls Tryd.prog 39 #[.slice A l.length c, .agg #[.int .u64 x.1, .int .u64 x.2.1, .int .i64 x.2.2]] w (OutW B (wth (·.1) x false l) w) := by
  have hn : (l.map s49).length = l.length := List.length_map _
  have h1 := with49 (l.map s49) (s49 x) (by omega) l.length 0 [] false (by omega) (by omega) (by simp)
  have h2 := spec_withWait.calls (2 * l.length + 1) A c (l.map s49) x.1 x.2.1 x.2.2 _ w (c49_of h hl) (by omega) h1
  rw [hn] at h2
  refine h2.mono ?_
  rintro e w' ⟨v, rfl, hr, hb⟩
  obtain ⟨A', c', rfl, hc', ho⟩ := wsO_of (B := B) hr
  have e1 : (([] : List S49) ++ wth (·.f0) (s49 x) false ((l.map s49).drop 0)).map w3 = wth (·.1) x false l := by
    rw [List.nil_append, List.drop_zero, show (fun x : S49 => x.f0) = S49.f0 from rfl, wth_map w3 (key := S49.f0) (key' := fun p : Int × Int × Int => p.1) (fun _ => rfl), w3_s49]
    rfl
  rw [e1] at hc' ho ⊢
  exact ⟨A', c', rfl, hc', ho, hb⟩
theorem withAgain_any (B : Nat) (A : Option Addr) (c : Nat) (l : List (Int × Int)) (x : Int × Int) (w : World) (h : RsAt w A l) (hc : l.length ≤ c) (hl : l.length < 100000) :
    Calls Tryd.prog 41 #[.slice A l.length c, .agg #[.int .u64 x.1, .int .u64 x.2]] w (OutR B (wth (·.1) x false l) w) := by
  have hn : (l.map s64).length = l.length := List.length_map _
  have h1 := with64 (l.map s64) (s64 x) (by omega) l.length 0 [] false (by omega) (by omega) (by simp)
  have h2 := spec_withAgain.calls (2 * l.length + 1) A c (l.map s64) x.1 x.2 _ w (c64_of h hl) (by omega) h1
  rw [hn] at h2
  refine h2.mono ?_
  rintro e w' ⟨v, rfl, hr, hb⟩
  obtain ⟨A', c', rfl, hc', ho⟩ := rsO_of (B := B) hr
  have e1 : (([] : List S64) ++ wth (·.f0) (s64 x) false ((l.map s64).drop 0)).map r2 = wth (·.1) x false l := by
    rw [List.nil_append, List.drop_zero, show (fun x : S64 => x.f0) = S64.f0 from rfl, wth_map r2 (key := S64.f0) (key' := fun p : Int × Int => p.1) (fun _ => rfl), r2_s64]
    rfl
  rw [e1] at hc' ho ⊢
  exact ⟨A', c', rfl, hc', ho, hb⟩
theorem waitsAbove_any (B : Nat) (A : Option Addr) (c : Nat) (l : List (Int × Int × Int)) (s : Int) (w : World) (h : WsAt w A l) (hc : l.length ≤ c) (hl : l.length < 100000) :
    Calls Tryd.prog 44 #[.slice A l.length c, .int .u64 s] w (OutW B (l.filter (fun p => decide (s < p.1))) w) := by
  have hn : (l.map s49).length = l.length := List.length_map _
  have h1 := above49 (l.map s49) s (by omega) l.length 0 [] (by omega) (by omega) (by simp)
  have h2 := spec_waitsAbove.calls (l.length + 1) A c (l.map s49) s _ w (c49_of h hl) (by omega) h1
  rw [hn] at h2
  refine h2.mono ?_
  rintro e w' ⟨v, rfl, hr, hb⟩
  obtain ⟨A', c', rfl, hc', ho⟩ := wsO_of (B := B) hr
  have e1 : (([] : List S49) ++ ((l.map s49).drop 0).filter (fun x => decide (s < x.f0))).map w3 = l.filter (fun p => decide (s < p.1)) := by
    rw [List.nil_append, List.drop_zero, List.filter_map, w3_s49]
    rfl
  rw [e1] at hc' ho ⊢
  exact ⟨A', c', rfl, hc', ho, hb⟩
theorem againsAbove_any (B : Nat) (A : Option Addr) (c : Nat) (l : List (Int × Int)) (s : Int) (w : World) (h : RsAt w A l) (hc : l.length ≤ c) (hl : l.length < 100000) :
    Calls Tryd.prog 27 #[.slice A l.length c, .int .u64 s] w (OutR B (l.filter (fun p => decide (s < p.1))) w) := by
  have hn : (l.map s64).length = l.length := List.length_map _
  have h1 := above64 (l.map s64) s (by omega) l.length 0 [] (by omega) (by omega) (by simp)
  have h2 := spec_againsAbove.calls (l.length + 1) A c (l.map s64) s _ w (c64_of h hl) (by omega) h1
  rw [hn] at h2
  refine h2.mono ?_
  rintro e w' ⟨v, rfl, hr, hb⟩
  obtain ⟨A', c', rfl, hc', ho⟩ := rsO_of (B := B) hr
  have e1 : (([] : List S64) ++ ((l.map s64).drop 0).filter (fun x => decide (s < x.f0))).map r2 = l.filter (fun p => decide (s < p.1)) := by
    rw [List.nil_append, List.drop_zero, List.filter_map, r2_s64]
    rfl
  rw [e1] at hc' ho ⊢
  exact ⟨A', c', rfl, hc', ho, hb⟩
theorem againsBut_any (B : Nat) (A : Option Addr) (c : Nat) (l : List (Int × Int)) (s : Int) (w : World) (h : RsAt w A l) (hc : l.length ≤ c) (hl : l.length < 100000) :
    Calls Tryd.prog 43 #[.slice A l.length c, .int .u64 s] w (OutR B (delL s l) w) := by
  have hn : (l.map s64).length = l.length := List.length_map _
  have h1 := but64 (l.map s64) s (by omega) l.length 0 [] (by omega) (by omega) (by simp)
  have h2 := spec_againsBut.calls (l.length + 1) A c (l.map s64) s _ w (c64_of h hl) (by omega) h1
  rw [hn] at h2
  refine h2.mono ?_
  rintro e w' ⟨v, rfl, hr, hb⟩
  obtain ⟨A', c', rfl, hc', ho⟩ := rsO_of (B := B) hr
  have e1 : (([] : List S64) ++ ((l.map s64).drop 0).filter (fun x => !(x.f0 == s))).map r2 = delL s l := by
    rw [List.nil_append, List.drop_zero, List.filter_map, r2_s64]
    rfl
  rw [e1] at hc' ho ⊢
  exact ⟨A', c', rfl, hc', ho, hb⟩
theorem timesOf_any (A : Option Addr) (c : Nat) (l : List (Int × Int)) (s : Int) (w : World) (h : RsAt w A l) (hc : l.length ≤ c) (hl : l.length < 100000) :
    Calls Tryd.prog 42 #[.slice A l.length c, .int .u64 s] w fun e w' => e = .returned (.int .u64 ((getL s l).getD 0)) ∧ Drawn0 w w' := by
  have hn : (l.map s64).length = l.length := List.length_map _
  have h1 := times64 (l.map s64) s (by omega) l.length 0 (by omega) (by omega)
  have h2 := spec_timesOf.calls (l.length + 1) A c (l.map s64) s _ w (c64_of h hl) (by omega) h1
  rw [hn] at h2
  refine h2.mono ?_
  rintro e w' ⟨rfl, hb⟩
  have e1 : ((((l.map s64).drop 0).find? (fun x => x.f0 == s)).map (·.f1)).getD 0 = (getL s l).getD 0 := by
    rw [List.drop_zero, List.find?_map]
    unfold getL
    rw [Option.map_map]
    rfl
  exact ⟨by rw [e1], hb⟩
theorem higher_any (a b c d : Int) (w : World) : Calls Tryd.prog 40 #[.agg #[.int .u64 a, .int .u64 b], .agg #[.int .u64 c, .int .u64 d]] w fun e w' => e = .returned (.agg #[.int .u64 (mxI a c), .int .u64 (mxI b d)]) ∧ Below w.heap.size w w' :=
  spec_higher.calls a b c d _ _ w rfl
end Go.Proofs.YtpbhblppehkifaaDoor
