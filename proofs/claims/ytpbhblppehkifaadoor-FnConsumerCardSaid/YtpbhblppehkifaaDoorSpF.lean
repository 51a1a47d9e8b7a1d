/- What fair and SameKeep say. -/
import Derived.Test.YtpbhblppehkifaaDoorSpM
import Derived.Test.YtpbhblppehkifaaDoorPFnConsumerx7
import Derived.Test.YtpbhblppehkifaaDoorPFnConsumerx8
namespace Go.Proofs.YtpbhblppehkifaaDoor
open Go Go.RowKit Con Go.Proofs.YtpbhblppehkifaaDoorW.PrintWords PFnConsumer
set_option linter.unusedVariables false

/-- Where a loop through what waits stands. -/
def FairAt (l : List S49) (s : Int) (i : Nat) (a : Int) : Prop := (a = -1 ∧ ∀ j (h : j < l.length), j < i → l[j].f0 ≠ s) ∨ ∃ (j : Nat) (h : j < l.length), a = j ∧ l[j].f0 = s
theorem fair_loop (l : List S49) (l5 : List S64) (ack dc ds fc fs op c s t at_ a5 a6 a7 a8 : Int) (m9 : List S49) (m10 : List S64) (rs : List (Int × Int)) (d : Dd) (h0 : d.op = op) (h1 : d.c = c) (h2 : d.s = s) (hl : l.length < 100000) :
    ∀ (n i : Nat) (a : Int), l.length - i ≤ n → i ≤ l.length → FairAt l s i a → ∃ b, laws_fair.l0 (n + 1) ack a (i : Int) dc ds fc fs l l5 op c s t at_ a5 a6 a7 a8 m9 m10 = some b ∧ (b = true → FairP ack ⟨dc, ds, fc, fs, l.map w3, rs⟩ d)
  | n, i, a, hn, hi, ha => by
    unfold laws_fair.l0
    by_cases hlt : i < l.length
    · obtain ⟨m, rfl⟩ : ∃ m, n = m + 1 := ⟨n - 1, by omega⟩
      rw [if_pos (by omega), if_pos (by omega), rd49 l i hlt, wr1 (by omega)]
      by_cases h : l[i].f0 = s
      · rw [if_pos h]
        exact fair_loop l l5 ack dc ds fc fs op c s t at_ a5 a6 a7 a8 m9 m10 rs d h0 h1 h2 hl m (i + 1) _ (by omega) (by omega) (Or.inr ⟨i, hlt, rfl, h⟩)
      · rw [if_neg h]
        refine fair_loop l l5 ack dc ds fc fs op c s t at_ a5 a6 a7 a8 m9 m10 rs d h0 h1 h2 hl m (i + 1) _ (by omega) (by omega) ?_
        rcases ha with ⟨h3, h4⟩ | h3
        · refine Or.inl ⟨h3, fun j hj hji => ?_⟩
          rcases Nat.lt_or_eq_of_le (Nat.le_of_lt_succ hji) with h5 | rfl
          · exact h4 j hj h5
          · exact h
        · exact Or.inr h3
    · rw [if_neg (by omega)]
      have hmem : ∀ (j : Nat) (h : j < l.length), (l[j].f0, l[j].f1, l[j].f2) ∈ l.map w3 := fun j h => List.mem_map.2 ⟨l[j], List.getElem_mem h, rfl⟩
      by_cases z0 : op = 0
      · rw [if_pos z0]
        by_cases g1 : c > dc
        · rw [if_pos g1]
          by_cases g2 : s > ds
          · rw [if_pos g2]
            exact ⟨true, rfl, fun _ => ⟨fun _ => ⟨by show dc < d.c; omega, Or.inl (by show ds < d.s; omega)⟩, fun h => by omega, fun h => by omega⟩⟩
          · rw [if_neg g2]
            by_cases g3 : a ≥ 0
            · rw [if_pos g3]
              refine ⟨_, rfl, fun hb => ⟨fun _ => ⟨by show dc < d.c; omega, Or.inr ⟨?_, by simpa using hb⟩⟩, fun h => by omega, fun h => by omega⟩⟩
              rcases ha with ⟨h3, _⟩ | ⟨j, hj, _, h4⟩
              · omega
              · exact ⟨_, hmem j hj, by show l[j].f0 = d.s; omega⟩
            · rw [if_neg g3]
              exact ⟨false, rfl, fun h => by cases h⟩
        · rw [if_neg g1]
          exact ⟨false, rfl, fun h => by cases h⟩
      · rw [if_neg z0]
        by_cases z1 : op = 1
        · rw [if_pos z1]
          by_cases g1 : a < 0
          · rw [if_pos g1]
            refine ⟨true, rfl, fun _ => ⟨fun h => by omega, fun _ => Or.inl fun e he => ?_, fun h => by omega⟩⟩
            obtain ⟨x, hx, rfl⟩ := List.mem_map.1 he
            obtain ⟨j, hj, rfl⟩ := List.getElem_of_mem hx
            rcases ha with ⟨_, h4⟩ | ⟨j', _, h4, _⟩
            · have := h4 j hj (by omega)
              show l[j].f0 ≠ d.s
              omega
            · omega
          · rw [if_neg g1, if_pos (by omega)]
            rcases ha with ⟨h3, _⟩ | ⟨j, hj, rfl, h4⟩
            · omega
            · rw [if_pos (by omega), rd49 l j hj]
              refine ⟨_, rfl, fun hb => ⟨fun h => by omega, fun _ => Or.inr ⟨_, hmem j hj, by show l[j].f0 = d.s; omega, ?_⟩, fun h => by omega⟩⟩
              have : l[j].f1 = c := by simpa using hb
              show l[j].f1 = d.c
              omega
        · rw [if_neg z1]
          by_cases z2 : op = 2
          · rw [if_pos z2]
            refine ⟨_, rfl, fun hb => ⟨fun h => by omega, fun h => by omega, fun _ => ?_⟩⟩
            have : (l.length : Int) = 0 := by simpa using hb
            have h5 : l = [] := List.eq_nil_of_length_eq_zero (by omega)
            show l.map w3 = []
            rw [h5]
            rfl
          · rw [if_neg z2]
            exact ⟨true, rfl, fun _ => ⟨fun h => by omega, fun h => by omega, fun h => by omega⟩⟩
def FairQ (ack : Int) (k : Kp) (d : Dd) (w : World) (e : Ending) (w' : World) : Prop := ∃ b, e = .returned (.bool b) ∧ (b = true → FairP ack k d) ∧ Below w.heap.size w w'
theorem fair_any (ack : Int) (k : Kp) (d : Dd) (A1 A2 D1 D2 : Option Addr) (q1 q2 r1 r2 : Nat) (w : World) (hw : WsAt w A1 k.ws) (hr : RsAt w A2 k.rs) (dw : WsAt w D1 d.k.ws) (dr : RsAt w D2 d.k.rs)
    (c1 : k.ws.length ≤ q1) (c2 : k.rs.length ≤ q2) (c3 : d.k.ws.length ≤ r1) (c4 : d.k.rs.length ≤ r2) (l1 : k.ws.length < 100000) (l2 : k.rs.length < 100000) (l3 : d.k.ws.length < 100000) (l4 : d.k.rs.length < 100000) :
    Calls Tryd.prog 11 #[.agg #[.int .u64 k.dc, .int .u64 k.ds, .int .u64 k.fc, .int .u64 k.fs, .slice A1 k.ws.length q1, .slice A2 k.rs.length q2], .int .i64 ack, .agg #[.int .i64 d.op, .int .u64 d.c, .int .u64 d.s, .int .u64 d.t, .int .i64 d.at_, .int .u64 d.k.dc, .int .u64 d.k.ds, .int .u64 d.k.fc, .int .u64 d.k.fs, .slice D1 d.k.ws.length r1, .slice D2 d.k.rs.length r2]] w (FairQ ack k d w) := by
  have n1 : (k.ws.map s49).length = k.ws.length := List.length_map _
  have n2 : (k.rs.map s64).length = k.rs.length := List.length_map _
  have n3 : (d.k.ws.map s49).length = d.k.ws.length := List.length_map _
  have n4 : (d.k.rs.map s64).length = d.k.rs.length := List.length_map _
  obtain ⟨b, hb, hp⟩ := fair_loop (k.ws.map s49) (k.rs.map s64) ack k.dc k.ds k.fc k.fs d.op d.c d.s d.t d.at_ d.k.dc d.k.ds d.k.fc d.k.fs (d.k.ws.map s49) (d.k.rs.map s64) k.rs d rfl rfl rfl (by omega) (k.ws.map s49).length 0 (-1) (by omega) (by omega) (Or.inl ⟨rfl, fun j _ h => absurd h (Nat.not_lt_zero _)⟩)
  have h2 := laws_fair.calls ((k.ws.map s49).length + 1) k.dc k.ds k.fc k.fs A1 q1 (k.ws.map s49) A2 q2 (k.rs.map s64) ack d.op d.c d.s d.t d.at_ d.k.dc d.k.ds d.k.fc d.k.fs D1 r1 (d.k.ws.map s49) D2 r2 (d.k.rs.map s64) b w (c49_of hw l1) (by omega) (c64_of hr l2) (by omega) (c49_of dw l3) (by omega) (c64_of dr l4) (by omega) hb
  rw [n1, n2, n3, n4] at h2
  rw [w3_s49] at hp
  refine h2.mono ?_
  rintro e w' ⟨rfl, hbw⟩
  exact ⟨b, rfl, hp, hbw⟩

theorem same_l1 (l4 : List S49) (l5 : List S64) (a b c d : Int) (hl : l5.length < 100000) : ∀ (n i : Nat), l5.length - i ≤ n → i ≤ l5.length → spec_SameKeep.l1 (n + 1) (i : Int) a b c d l4 l5 a b c d l4 l5 = some true
  | n, i, hn, hi => by
    rw [spec_SameKeep.l1]
    by_cases hlt : i < l5.length
    · obtain ⟨m, rfl⟩ : ∃ m, n = m + 1 := ⟨n - 1, by omega⟩
      rw [if_pos (by omega), if_pos (by omega), if_pos (by omega), if_neg (by simp), wr1 (by omega)]
      exact same_l1 l4 l5 a b c d hl m (i + 1) (by omega) (by omega)
    · rw [if_neg (by omega)]
theorem same_l0 (l4 : List S49) (l5 : List S64) (a b c d : Int) (hl4 : l4.length < 100000) (hl5 : l5.length < 100000) : ∀ (n i : Nat), l4.length - i ≤ n → i ≤ l4.length → spec_SameKeep.l0 (n + l5.length + 1 + 1) (i : Int) a b c d l4 l5 a b c d l4 l5 = some true
  | n, i, hn, hi => by
    rw [spec_SameKeep.l0]
    by_cases hlt : i < l4.length
    · obtain ⟨m, rfl⟩ : ∃ m, n = m + 1 := ⟨n - 1, by omega⟩
      rw [if_pos (by omega), if_pos (by omega), if_pos (by omega), if_neg (by simp), wr1 (by omega)]
      have e : m + 1 + l5.length + 1 = m + l5.length + 1 + 1 := by omega
      rw [e]
      exact same_l0 l4 l5 a b c d hl4 hl5 m (i + 1) (by omega) (by omega)
    · rw [if_neg (by omega)]
      exact same_l1 l4 l5 a b c d hl5 (n + l5.length) 0 (by omega) (by omega)
theorem same_any (k : Kp) (A1 A2 B1 B2 : Option Addr) (q1 q2 r1 r2 : Nat) (w : World) (hw : WsAt w A1 k.ws) (hr : RsAt w A2 k.rs) (dw : WsAt w B1 k.ws) (dr : RsAt w B2 k.rs)
    (c1 : k.ws.length ≤ q1) (c2 : k.rs.length ≤ q2) (c3 : k.ws.length ≤ r1) (c4 : k.rs.length ≤ r2) (l1 : k.ws.length < 100000) (l2 : k.rs.length < 100000) :
    Calls Tryd.prog 13 #[.agg #[.int .u64 k.dc, .int .u64 k.ds, .int .u64 k.fc, .int .u64 k.fs, .slice A1 k.ws.length q1, .slice A2 k.rs.length q2], .agg #[.int .u64 k.dc, .int .u64 k.ds, .int .u64 k.fc, .int .u64 k.fs, .slice B1 k.ws.length r1, .slice B2 k.rs.length r2]] w fun e w' => e = .returned (.bool true) ∧ Below w.heap.size w w' := by
  have n1 : (k.ws.map s49).length = k.ws.length := List.length_map _
  have n2 : (k.rs.map s64).length = k.rs.length := List.length_map _
  have hf : spec_SameKeep.f ((k.ws.map s49).length + (k.rs.map s64).length + 1 + 1 + 1) k.dc k.ds k.fc k.fs (k.ws.map s49) (k.rs.map s64) k.dc k.ds k.fc k.fs (k.ws.map s49) (k.rs.map s64) = some true := by
    unfold spec_SameKeep.f
    rw [if_neg (by simp), if_neg (by simp), if_pos rfl, spec_SameKeep.j0, if_neg (by simp)]
    exact same_l0 _ _ _ _ _ _ (by omega) (by omega) (k.ws.map s49).length 0 (by omega) (by omega)
  have h2 := spec_SameKeep.calls _ k.dc k.ds k.fc k.fs A1 q1 (k.ws.map s49) A2 q2 (k.rs.map s64) k.dc k.ds k.fc k.fs B1 r1 (k.ws.map s49) B2 r2 (k.rs.map s64) true w (c49_of hw l1) (by omega) (c64_of hr l2) (by omega) (c49_of dw l1) (by omega) (c64_of dr l2) (by omega) hf
  rw [n1, n2] at h2
  exact h2
end Go.Proofs.YtpbhblppehkifaaDoor
