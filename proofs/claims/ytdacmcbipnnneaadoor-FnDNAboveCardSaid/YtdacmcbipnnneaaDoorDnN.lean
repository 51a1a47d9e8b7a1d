/- A text is read to one name alone; what lies behind an address lies there still. -/
import Derived.Test.YtdacmcbipnnneaaDoorDnM
namespace Go.Proofs.YtdacmcbipnnneaaDoor
open Go.RowKit
set_option linter.unusedVariables false
set_option linter.unusedSimpArgs false

theorem hexd_det {c x y : Nat} (h : hexd c x) (k : hexd c y) : x = y := by
  rcases h with ⟨_, _, rfl⟩ | ⟨_, _, rfl⟩ <;> rcases k with ⟨_, _, rfl⟩ | ⟨_, _, rfl⟩ <;> omega
theorem special_hexd {c x : Nat} (h : special c) (k : hexd c x) : False := by
  unfold special at h
  rcases k with ⟨_, _, rfl⟩ | ⟨_, _, rfl⟩ <;> omega

theorem Parses.det {s : ByteArray} {R R' : List (List At)} {i : Nat} {p : PS} (h : Parses s R i p) : Parses s R' i p → R = R' := by
  induction h with
  | none i p a b c => intro h'; cases h' <;> first | (subst_vars; rfl) | omega | (exfalso; contradiction)
  | last i p a b c d => intro h'; cases h' <;> first | (subst_vars; rfl) | omega | (exfalso; contradiction)
  | escS i p a b c d ih => intro h'; cases h' with
    | escS _ _ a' b' c' d' => exact ih d'
    | escH _ x y _ a' b' c' d' e' => exact (special_hexd c c').elim
    | none _ _ a' => omega
    | last _ _ a' => omega
    | _ => simp_all
  | escH i x y p a b c d e ih => intro h'; cases h' with
    | escH _ x' y' _ a' b' c' d' e' =>
      obtain rfl := hexd_det c c'
      obtain rfl := hexd_det d d'
      exact ih e'
    | escS _ _ a' b' c' d' => exact (special_hexd c' c).elim
    | none _ _ a' => omega
    | last _ _ a' => omega
    | _ => simp_all
  | slash i p a b c d ih => intro h'; cases h' with
    | slash _ _ a' b' c' d' => exact ih d'
    | none _ _ a' => omega
    | last _ _ a' => omega
    | _ => simp_all
  | eq i p a b c d e ih => intro h'; cases h' with
    | eq _ _ a' b' c' d' e' => exact ih e'
    | none _ _ a' => omega
    | last _ _ a' => omega
    | _ => simp_all
  | plus i p a b c d e ih => intro h'; cases h' with
    | plus _ _ a' b' c' d' e' => exact ih e'
    | none _ _ a' => omega
    | last _ _ a' => omega
    | _ => simp_all
  | comma i p a b c d e ih => intro h'; cases h' with
    | comma _ _ a' b' c' d' e' => exact ih e'
    | none _ _ a' => omega
    | last _ _ a' => omega
    | _ => simp_all
  | other i p a b c d e f g k ih => intro h'; cases h' with
    | other _ _ a' b' c' d' e' f' g' k' => exact ih k'
    | none _ _ a' => omega
    | last _ _ a' => omega
    | _ => simp_all

theorem cell_agree {w W : World} {a : Addr} {v : Value} (h : w.cell? a = some v) (hW : ∀ k, k < w.heap.size → W.heap[k]? = w.heap[k]?) : W.cell? a = some v := by
  rw [World.cell?_of_block (w := w) (hW _ (World.block_lt_of_cell? w _ h))]; exact h
theorem AttrsAt.agree {w W : World} {A : Option Addr} {xs : List At} (h : AttrsAt w A xs) (hW : ∀ k, k < w.heap.size → W.heap[k]? = w.heap[k]?) : AttrsAt W A xs := by
  intro i hi
  obtain ⟨ad, e, h0, h1⟩ := h i hi
  exact ⟨ad, e, cell_agree h0 hW, cell_agree h1 hW⟩
theorem NamesC.agree {w W : World} {A : Option Addr} {xss : List (List At)} (h : NamesC w A xss) (hW : ∀ k, k < w.heap.size → W.heap[k]? = w.heap[k]?) : NamesC W A xss := by
  intro i hi
  obtain ⟨ad, A0, c0, e, h0, hc, h1⟩ := h i hi
  exact ⟨ad, A0, c0, e, cell_agree h0 hW, hc, h1.agree hW⟩

instance (xss : List (List At)) : Decidable (Small xss) := by unfold Small; infer_instance
end Go.Proofs.YtdacmcbipnnneaaDoor
