/- The law FnFramesCuts in plain Lean: pieces and joined; strings in memory. -/
import Derived.Test.YtbldebfjgccadaaDoorFrV
import Derived.Test.YtbldebfjgccadaaDoorPFnFramesCutsx1
namespace Go.Proofs.YtbldebfjgccadaaDoor
open Go.RowKit Go.Proofs.YtbldebfjgccadaaDoorW.PrintWords
open PFnFramesCuts (laws_pieces.f laws_pieces.l0 laws_joined.f laws_joined.l0)
set_option linter.unusedVariables false
set_option linter.unusedSimpArgs false

theorem wrap_succ' (i : Nat) (h : i < 4611686018427387904) : wrap64 ((i : Int) + 1) = ((i + 1 : Nat) : Int) := by unfold wrap64; omega

theorem natsOf_append (s t : ByteArray) : natsOf (s ++ t) = natsOf s ++ natsOf t := by
  unfold natsOf
  rw [ByteArray.data_append, Array.toList_append, List.map_append]
theorem natsOf_take (s : ByteArray) (m : Nat) : natsOf (s.extract 0 m) = (natsOf s).take m := by
  unfold natsOf
  rw [ByteArray.data_extract, Array.toList_extract, ← List.map_take]
  simp [List.extract]
theorem natsOf_drop (s : ByteArray) (m : Nat) : natsOf (s.extract m s.size) = (natsOf s).drop m := by
  unfold natsOf
  rw [ByteArray.data_extract, Array.toList_extract, ← List.map_drop]
  have h : s.data.toList.length = s.size := by rw [Array.length_toList]; rfl
  rw [List.extract_eq_take_drop, List.take_of_length_le (by rw [List.length_drop, h]; omega)]
theorem natsOf_inj {s t : ByteArray} (h : natsOf s = natsOf t) : s = t := by
  unfold natsOf at h
  have h1 : s.data.toList = t.data.toList := (List.map_inj_right (fun a b e => UInt8.toNat_inj.1 e)).1 h
  have h2 : s.data = t.data := Array.ext' h1
  cases s; cases t; simp_all

theorem pieces_step (k : Nat) (s : ByteArray) (cuts : List Int) (out : List ByteArray) (i m : Nat) (h1 : (i : Int) < (cuts.length : Int)) (h2 : (i : Int) < 12) (h3 : (0 : Int) ≤ (i : Int))
    (e1 : IntKind.u64.wrap (wrap64 ((s.size : Int) + 1)) = (s.size : Int) + 1) (h4 : ¬ ((s.size : Int) + 1 = 0)) (hm : wrap64 (Int.tmod (IntKind.u64.wrap (rd cuts (i : Int))) ((s.size : Int) + 1)) = (m : Int)) (h5 : (0 : Int) ≤ (m : Int)) (h6 : (m : Int) ≤ (s.size : Int)) (h7 : out.length < 8796093022208) (h8 : wrap64 ((i : Int) + 1) = ((i + 1 : Nat) : Int)) :
    laws_pieces.l0 (k + 1) s cuts out (i : Int) = laws_pieces.l0 k (s.extract m s.size) cuts (out ++ [s.extract 0 m]) ((i + 1 : Nat) : Int) := by
  rw [laws_pieces.l0, if_pos h1, if_pos h2, if_pos h3, e1, hm, h8, if_neg h4, if_pos h5, if_pos h6, if_pos h7, Int.toNat_natCast]
theorem pieces_last (k : Nat) (s : ByteArray) (cuts : List Int) (out : List ByteArray) (i : Nat) (h : ¬ ((i : Int) < (cuts.length : Int)) ∨ ¬ ((i : Int) < 12)) (h7 : out.length < 8796093022208) : laws_pieces.l0 (k + 1) s cuts out (i : Int) = some (out ++ [s]) := by
  rw [laws_pieces.l0]
  by_cases h1 : (i : Int) < (cuts.length : Int)
  · rcases h with h | h
    · exact absurd h1 h
    · rw [if_pos h1, if_neg h, if_pos h7]
  · rw [if_neg h1, if_pos h7]
theorem size_wrap (n : Nat) (h : n ≤ 5000) : IntKind.u64.wrap (wrap64 ((n : Int) + 1)) = (n : Int) + 1 := by rw [wrap_succ' _ (by omega), IntKind.wrap_u64]; omega
theorem cut_at (x : Int) (n : Nat) (h : n ≤ 5000) (hx : 0 ≤ x) : ∃ m : Nat, wrap64 (Int.tmod x ((n : Int) + 1)) = (m : Int) ∧ m ≤ n := by
  have h4 := Int.tmod_nonneg (a := x) ((n : Int) + 1) hx
  have h5 := Int.tmod_lt_of_pos x (b := (n : Int) + 1) (by omega)
  generalize Int.tmod x ((n : Int) + 1) = y at h4 h5
  exact ⟨y.toNat, by unfold wrap64; omega, by omega⟩
theorem u64_nonneg (x : Int) : 0 ≤ IntKind.u64.wrap x := by rw [IntKind.wrap_u64]; omega
/-- A text cut at places: the pieces are the text. -/
theorem pieces_ends (cuts : List Int) (d : Nat) : ∀ (s : ByteArray) (out : List ByteArray) (i : Nat), min cuts.length 12 - i = d → i ≤ min cuts.length 12 → s.size ≤ 5000 → out.length ≤ i →
    ∃ r, Ev (fun k => laws_pieces.l0 k s cuts out (i : Int)) r ∧ (r.map natsOf).flatten = (out.map natsOf).flatten ++ natsOf s ∧ r.length = out.length + 1 + d := by
  induction d with
  | zero =>
    intro s out i h1 h2 hs ho
    have h3 : ¬ ((i : Int) < (cuts.length : Int)) ∨ ¬ ((i : Int) < 12) := by omega
    have h7 : out.length < 8796093022208 := by omega
    exact ⟨out ++ [s], Ev.step (f := fun _ => some (out ++ [s])) (fun k => pieces_last k s cuts out i h3 h7) (Ev.now _), by simp, by simp⟩
  | succ d ih =>
    intro s out i h1 h2 hs ho
    obtain ⟨m, hm, hms⟩ := cut_at (IntKind.u64.wrap (rd cuts (i : Int))) s.size hs (u64_nonneg _)
    have a1 : (i : Int) < (cuts.length : Int) := by omega
    have a2 : (i : Int) < 12 := by omega
    have a3 : out.length < 8796093022208 := by omega
    have a4 : wrap64 ((i : Int) + 1) = ((i + 1 : Nat) : Int) := wrap_succ' i (by omega)
    have a5 : (s.extract m s.size).size ≤ 5000 := by rw [ByteArray.size_extract]; omega
    obtain ⟨r, hr, hf, hl⟩ := ih (s.extract m s.size) (out ++ [s.extract 0 m]) (i + 1) (by omega) (by omega) a5 (by simp; omega)
    refine ⟨r, Ev.step (f := fun k => laws_pieces.l0 k (s.extract m s.size) cuts (out ++ [s.extract 0 m]) ((i + 1 : Nat) : Int)) (fun k => pieces_step k s cuts out i m a1 a2 (by omega) (size_wrap _ hs) (by omega) hm (by omega) (by omega) a3 a4) hr, ?_, by rw [hl, List.length_append, List.length_singleton]; omega⟩
    rw [hf, natsOf_drop, List.map_append, List.flatten_append, List.append_assoc]
    simp [natsOf_take]
theorem pieces_done (s : ByteArray) (cuts : List Int) (hs : s.size ≤ 5000) (hc : cuts.length ≤ 12) :
    ∃ k r, laws_pieces.f k s cuts = some r ∧ (r.map natsOf).flatten = natsOf s ∧ 0 < r.length ∧ r.length < 14 := by
  obtain ⟨r, hr, hf, hl⟩ := pieces_ends cuts _ s [] 0 rfl (by omega) hs (by simp)
  obtain ⟨k, hk⟩ := hr.rounds
  exact ⟨k, r, hk, by simpa using hf, by omega, by simp at hl; omega⟩

/-- Texts as one. -/
theorem joined_step (k : Nat) (l : List ByteArray) (acc x : ByteArray) (i : Nat) (h1 : (i : Int) < (l.length : Int)) (h2 : (0 : Int) ≤ (i : Int)) (e1 : rdOf ByteArray.empty l (i : Int) = x) (h3 : acc.size + x.size ≤ 9223372036854775807) (h4 : wrap64 ((i : Int) + 1) = ((i + 1 : Nat) : Int)) :
    laws_joined.l0 (k + 1) l acc (i : Int) = laws_joined.l0 k l (acc ++ x) ((i + 1 : Nat) : Int) := by
  rw [laws_joined.l0, if_pos h1, if_pos h2, e1, if_pos h3, h4]
theorem joined_last (k : Nat) (l : List ByteArray) (acc : ByteArray) (i : Nat) (h1 : ¬ (i : Int) < (l.length : Int)) : laws_joined.l0 (k + 1) l acc (i : Int) = some acc := by
  rw [laws_joined.l0, if_neg h1]
theorem joined_ends (l : List ByteArray) (d : Nat) : ∀ (acc : ByteArray) (i : Nat), l.length - i = d → i ≤ l.length → acc.size + ((l.drop i).map natsOf).flatten.length ≤ 1000000 → l.length ≤ 1000000 →
    ∃ r, Ev (fun k => laws_joined.l0 k l acc (i : Int)) r ∧ natsOf r = natsOf acc ++ ((l.drop i).map natsOf).flatten := by
  induction d with
  | zero =>
    intro acc i h1 h2 hs hL
    have h3 : ¬ (i : Int) < (l.length : Int) := by omega
    refine ⟨acc, Ev.step (f := fun _ => some acc) (fun k => joined_last k l acc i h3) (Ev.now _), ?_⟩
    rw [List.drop_of_length_le (by omega)]; simp
  | succ d ih =>
    intro acc i h1 h2 hs hL
    have hi : i < l.length := by omega
    have e1 : rdOf ByteArray.empty l (i : Int) = l[i] := by simp [rdOf, List.getD, hi]
    have e2 : l.drop i = l[i] :: l.drop (i + 1) := List.drop_eq_getElem_cons hi
    rw [e2] at hs ⊢
    simp only [List.map_cons, List.flatten_cons, List.length_append, natsOf_length] at hs ⊢
    have a1 : (i : Int) < (l.length : Int) := by omega
    have a3 : acc.size + l[i].size ≤ 9223372036854775807 := by omega
    have a4 : wrap64 ((i : Int) + 1) = ((i + 1 : Nat) : Int) := wrap_succ' i (by omega)
    obtain ⟨r, hr, hf⟩ := ih (acc ++ l[i]) (i + 1) (by omega) (by omega) (by rw [ByteArray.size_append]; omega) hL
    refine ⟨r, Ev.step (f := fun k => laws_joined.l0 k l (acc ++ l[i]) ((i + 1 : Nat) : Int)) (fun k => joined_step k l acc l[i] i a1 (by omega) e1 a3 a4) hr, ?_⟩
    rw [hf, natsOf_append, List.append_assoc]
theorem joined_done (l : List ByteArray) (hs : (l.map natsOf).flatten.length ≤ 1000000) (hl : l.length ≤ 1000000) : ∃ k r, laws_joined.f k l = some r ∧ natsOf r = (l.map natsOf).flatten := by
  obtain ⟨r, hr, hf⟩ := joined_ends l _ ByteArray.empty 0 rfl (by omega) (by simpa using hs) hl
  obtain ⟨k, hk⟩ := hr.rounds
  exact ⟨k, r, hk, by rw [hf]; simp [natsOf]⟩

/-- The pieces' row, read. -/
theorem strs_cells {w : World} {B : Nat} {v : Value} {r : List ByteArray} (h : Kd.R Kd.string 9 w B (fun _ => True) v r) (hn : 0 < r.length) :
    ∃ ad c, v = .slice (some ad) r.length c ∧ ∀ i, (hi : i < r.length) → w.cell? (ad.add i) = some (.string r[i]) := by
  obtain ⟨A, c, rfl, hc, hC⟩ := Kd.R_reads h
  obtain ⟨ad, rfl, hcell⟩ := hC.2.2 hn
  refine ⟨ad, c, rfl, fun i hi => ?_⟩
  obtain ⟨cs, h1, h2, h3⟩ := hcell i r[i] (List.getElem?_eq_getElem hi)
  have h2' : cs = [Value.string r[i]] := h2
  subst h2'
  have := h3 0 (.string r[i]) rfl
  simpa [Kd.string, Kd.scalar] using this
/-- An own row of texts, read. -/
theorem own_strs {w : World} {B : Nat} {v : Value} {l : List ByteArray} (h : w.ownsRow B 9 1 v l.length (l.map Value.string)) : ∃ A c, v = .slice A l.length c ∧ l.length ≤ c ∧ Kd.C Kd.string w A l.length l := by
  obtain ⟨A, c, rfl, hc, hr⟩ := own_reads_of_le (enc := Value.string) (d := ByteArray.empty) (xs := l) h
  exact ⟨A, c, rfl, hc, Kd.C_of_reads hr⟩
/-- What a whole run reads does not hang on the cuts. -/
theorem runs_agree {v : List Nat → Bool} {a b : List (List Nat)} {x y : Frm.Res} (ha : Frm.Run v (.head true) [] a x) (hb : Frm.Run v (.head true) [] b y) (h : a.flatten = b.flatten) : x.1.flatten = y.1.flatten ∧ x.2 = y.2 := by
  have h1 := ha.flat
  have h2 := hb.flat
  rw [List.nil_append] at h1 h2
  rw [h] at h1
  have h3 := Frm.Flat.det h1 h2
  simp only [Prod.mk.injEq] at h3
  exact ⟨h3.1, Prod.ext h3.2.1 h3.2.2⟩
end Go.Proofs.YtbldebfjgccadaaDoor
