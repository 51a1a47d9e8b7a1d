/- A script's deeds in memory, row by row. -/
import Derived.Test.YtpbhblppehkifaaDoorConsA
namespace Go.Proofs.YtpbhblppehkifaaDoor
open Go Go.RowKit Con Go.Proofs.YtpbhblppehkifaaDoorW.PrintWords
set_option linter.unusedVariables false

def encD (d : Dd) (A1 A2 : Option Addr) (q1 q2 : Nat) : List Value :=
  [.int .i64 d.op, .int .u64 d.c, .int .u64 d.s, .int .u64 d.t, .int .i64 d.at_, .int .u64 d.k.dc, .int .u64 d.k.ds, .int .u64 d.k.fc, .int .u64 d.k.fs, .slice A1 d.k.ws.length q1, .slice A2 d.k.rs.length q2]
/-- Rows of cells, and the deeds that they are. -/
def DsRow (w : World) (rows : List (List Value)) (ds : List Dd) : Prop := rows.length = ds.length ∧ ∀ i (h : i < ds.length), ∃ A1 A2 q1 q2, rows[i]? = some (encD ds[i] A1 A2 q1 q2) ∧ WsAt w A1 ds[i].k.ws ∧ RsAt w A2 ds[i].k.rs
theorem DsRow.later {w w' : World} {rows : List (List Value)} {ds : List Dd} (h : DsRow w rows ds) (hb : Below w.heap.size w w') : DsRow w' rows ds := ⟨h.1, fun i hi => by
  obtain ⟨A1, A2, q1, q2, e, hw, hr⟩ := h.2 i hi
  exact ⟨A1, A2, q1, q2, e, hw.later hb, hr.later hb⟩⟩
theorem DsRow.len {w : World} {rows : List (List Value)} {ds : List Dd} (h : DsRow w rows ds) : ∀ r ∈ rows, r.length = 11 := fun r hr => by
  obtain ⟨i, hi, rfl⟩ := List.getElem_of_mem hr
  obtain ⟨A1, A2, q1, q2, e, _⟩ := h.2 i (by have := h.1; omega)
  rw [List.getElem?_eq_getElem hi] at e
  rw [Option.some.inj e]
  rfl
theorem flatten_len : ∀ {rows : List (List Value)}, (∀ r ∈ rows, r.length = 11) → rows.flatten.length = rows.length * 11
  | [], _ => rfl
  | r :: rows, h => by
    rw [List.flatten_cons, List.length_append, flatten_len (fun x hx => h x (List.mem_cons_of_mem _ hx)), h r (by simp), List.length_cons]
    omega
theorem flatten_at : ∀ {rows : List (List Value)}, (∀ r ∈ rows, r.length = 11) → ∀ (i j : Nat) (r : List Value), rows[i]? = some r → j < 11 → rows.flatten[i * 11 + j]? = r[j]?
  | [], _, i, j, r, h, _ => by simp at h
  | r0 :: rows, hl, 0, j, r, h, hj => by
    have e : r0 = r := by simpa using h
    subst e
    rw [List.flatten_cons, List.getElem?_append_left (by rw [hl r0 (by simp)]; omega)]
    simp
  | r0 :: rows, hl, i + 1, j, r, h, hj => by
    have ih := flatten_at (fun x hx => hl x (List.mem_cons_of_mem _ hx)) i j r (by simpa using h) hj
    have h0 := hl r0 (by simp)
    rw [List.flatten_cons, List.getElem?_append_right (by rw [h0]; omega), h0]
    have e : (i + 1) * 11 + j - 11 = i * 11 + j := by omega
    rw [e, ih]
theorem DsRow.snoc {w : World} {rows : List (List Value)} {ds : List Dd} (h : DsRow w rows ds) (d : Dd) (A1 A2 : Option Addr) (q1 q2 : Nat) (hw : WsAt w A1 d.k.ws) (hr : RsAt w A2 d.k.rs) : DsRow w (rows ++ [encD d A1 A2 q1 q2]) (ds ++ [d]) := by
  refine ⟨by simp [h.1], fun i hi => ?_⟩
  by_cases hlt : i < ds.length
  · obtain ⟨B1, B2, p1, p2, e, hw', hr'⟩ := h.2 i hlt
    rw [List.getElem_append_left hlt]
    exact ⟨B1, B2, p1, p2, by rw [List.getElem?_append_left (by have := h.1; omega)]; exact e, hw', hr'⟩
  · have hi' : i = ds.length := by simp at hi; omega
    subst hi'
    refine ⟨A1, A2, q1, q2, ?_, ?_, ?_⟩
    · have e : (ds ++ [d])[ds.length] = d := by simp
      rw [e, List.getElem?_append_right (by rw [h.1]; exact Nat.le_refl _), h.1]
      simp
    · simpa using hw
    · simpa using hr
theorem DsRow.nil (w : World) : DsRow w [] [] := ⟨rfl, fun i h => absurd h (Nat.not_lt_zero _)⟩
/-- The rows of an owned slice are its deeds. -/
theorem ds_of_own {w : World} {B n : Nat} {v : Value} {rows : List (List Value)} {ds : List Dd} (hr : DsRow w rows ds) (hn : ds.length = n) (h : w.ownsRow B 38 11 v n rows.flatten) : ∃ A c, v = .slice A n c ∧ n ≤ c ∧ DsAt w A ds := by
  obtain ⟨A, c, rfl, hc, hh⟩ := own_cap h
  refine ⟨A, c, rfl, hc, fun i hi => ?_⟩
  obtain ⟨A1, A2, q1, q2, e, hw, hrr⟩ := hr.2 i hi
  have f : ∀ j u, j < 11 → (encD ds[i] A1 A2 q1 q2)[j]? = some u → ∃ g, A = some ⟨g, 0, none⟩ ∧ w.cell? ⟨g, i * 11 + j, none⟩ = some u := fun j u hj hu => hh (i * 11 + j) u (by rw [flatten_at hr.len i j _ e hj]; exact hu)
  obtain ⟨g, rfl, h0⟩ := f 0 _ (by omega) rfl
  have f' : ∀ j u, j < 11 → (encD ds[i] A1 A2 q1 q2)[j]? = some u → w.cell? ⟨g, i * 11 + j, none⟩ = some u := fun j u hj hu => by
    obtain ⟨g', e1, h1⟩ := f j u hj hu
    cases e1
    exact h1
  refine ⟨_, A1, A2, q1, q2, rfl, hw, hrr, ?_, ?_, ?_, ?_, ?_, ?_, ?_, ?_, ?_, ?_, ?_⟩ <;> rw [add_g]
  · exact h0
  · exact f' 1 _ (by omega) rfl
  · exact f' 2 _ (by omega) rfl
  · exact f' 3 _ (by omega) rfl
  · exact f' 4 _ (by omega) rfl
  · exact f' 5 _ (by omega) rfl
  · exact f' 6 _ (by omega) rfl
  · exact f' 7 _ (by omega) rfl
  · exact f' 8 _ (by omega) rfl
  · exact f' 9 _ (by omega) rfl
  · exact f' 10 _ (by omega) rfl

end Go.Proofs.YtpbhblppehkifaaDoor
