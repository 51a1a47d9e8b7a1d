/- The walk of NewSubjectTransformWithStrict: where the stars stand. -/
import Derived.Test.YtpiceaehfpljnaaDoorMpN
import Derived.Test.YtpiceaehfpljnaaDoorMpO
namespace Go.Proofs.YtpiceaehfpljnaaDoor
open Go.RowKit Mp Mpm
attribute [local go_sem ↓] Go.wp_at_zero Go.wp_at_succ
set_option linter.unusedVariables false
set_option linter.unusedSimpArgs false
set_option maxRecDepth 1000000
set_option maxHeartbeats 8000000

/-- The places of the stars among the first k parts. -/
def sposK (ts : List ByteArray) : Nat → List Nat
  | 0 => []
  | k + 1 => sposK ts k ++ (if ts[k]? = some starS then [k] else [])
theorem sposK_len (ts : List ByteArray) (k : Nat) (h : k ≤ ts.length) : (sposK ts k).length = stars (ts.take k) := by
  induction k with
  | zero => simp [sposK, stars]
  | succ k ih =>
    have hk : k < ts.length := by omega
    rw [sposK, List.length_append, ih (by omega), stars_take ts k hk, List.getElem?_eq_getElem hk]
    by_cases e : ts[k] = starS <;> simp [e]
/-- The map of the stars: which one stands where. -/
def gl : Nat → List Nat → List (Int × Value)
  | _, [] => []
  | i, p :: r => (((i + 1 : Nat) : Int), .int .i64 (p : Nat)) :: gl (i + 1) r
theorem gl_len (i : Nat) (ps : List Nat) : (gl i ps).length = ps.length := by
  induction ps generalizing i with
  | nil => rfl
  | cons p r ih => simp [gl, ih]
theorem gl_keys (i : Nat) (ps : List Nat) : ∀ x ∈ gl i ps, x.1 < ((i + ps.length + 1 : Nat) : Int) := by
  induction ps generalizing i with
  | nil => simp [gl]
  | cons p r ih =>
    intro x hx
    rw [gl, List.mem_cons] at hx
    rcases hx with rfl | hx
    · simp; omega
    · have := ih (i + 1) x hx
      simp at this ⊢
      omega
theorem ins_last {β : Type} (x : Int × β) (G : List (Int × β)) (h : ∀ p ∈ G, p.1 < x.1) : ins x G = G ++ [x] := by
  induction G with
  | nil => rfl
  | cons y r ih =>
    have := h y (by simp)
    rw [ins, if_neg (by omega), ih (fun p hp => h p (by simp [hp]))]
    rfl
theorem gl_snoc (i : Nat) (ps : List Nat) (p : Nat) : gl i (ps ++ [p]) = gl i ps ++ [(((i + ps.length + 1 : Nat) : Int), .int .i64 (p : Nat))] := by
  induction ps generalizing i with
  | nil => rfl
  | cons q r ih =>
    rw [List.cons_append, gl, ih, gl, List.length_cons, List.cons_append]
    congr 4
    omega
theorem gl_put (ps : List Nat) (p : Nat) : putL (((ps.length + 1 : Nat)) : Int) (.int .i64 (p : Nat)) (gl 0 ps) = gl 0 (ps ++ [p]) := by
  have hk := gl_keys 0 ps
  unfold putL delL
  rw [List.filter_eq_self.2 (fun x hx => by
    have := hk x hx
    have h2 : x.1 ≠ ((ps.length + 1 : Nat) : Int) := by omega
    simpa using h2)]
  rw [ins_last _ _ (fun x hx => by have := hk x hx; simp at this ⊢; omega), gl_snoc]
  simp
theorem gl_get (i : Nat) (ps : List Nat) (j : Nat) (p : Nat) (h : ps[j]? = some p) : getL (((i + j + 1 : Nat)) : Int) (gl i ps) = some (.int .i64 (p : Nat)) := by
  induction ps generalizing i j with
  | nil => simp at h
  | cons q r ih =>
    cases j with
    | zero =>
      simp at h
      subst h
      simp [getL, gl]
    | succ j =>
      have h2 : r[j]? = some p := by simpa using h
      have h3 := ih (i + 1) j h2
      unfold getL at h3 ⊢
      rw [gl, List.find?_cons]
      have e : (((i + 1 : Nat) : Int) == ((i + (j + 1) + 1 : Nat) : Int)) = false := beq_eq_false_iff_ne.2 (by omega)
      rw [e]
      have e2 : i + (j + 1) + 1 = i + 1 + j + 1 := by omega
      rw [e2]
      exact h3

def allLoops : Code → List Code
  | .loop c => [c]
  | .seq a b => allLoops a ++ allLoops b
  | .block _ c => allLoops c
  | .scope c => allLoops c
  | .cond _ a b => allLoops a ++ allLoops b
  | _ => []
noncomputable def L32 (i : Nat) : Code := ((allLoops (Tryd.f32.body.getD .skip))[i]?).getD .skip
def FrameU (u : Nat → Value) : Act := ⟨#[u 0, u 1, u 2, u 3, u 4, u 5, u 6, u 7, u 8, u 9, u 10, u 11, u 12, u 13, u 14, u 15, u 16, u 17, u 18, u 19, u 20, u 21, u 22, u 23, u 24, u 25, u 26, u 27, u 28, u 29, u 30, u 31, u 32, u 33, u 34, u 35, u 36, u 37, u 38, u 39, u 40, u 41, u 42, u 43, u 44, u 45, u 46, u 47, u 48, u 49, u 50, u 51, u 52, u 53, u 54, u 55, u 56, u 57, u 58, u 59, u 60, u 61, u 62, u 63, u 64, u 65, u 66, u 67, u 68, u 69, u 70, u 71, u 72, u 73, u 74, u 75, u 76, u 77, u 78, u 79, u 80, u 81, u 82, u 83, u 84, u 85, u 86, u 87, u 88, u 89, u 90, u 91, u 92, u 93, u 94, u 95, u 96, u 97, u 98, u 99, u 100, u 101, u 102, u 103, u 104, u 105, u 106, u 107, u 108, u 109, u 110, u 111, u 112, u 113, u 114, u 115, u 116, u 117, u 118, u 119, u 120, u 121, u 122, u 123, u 124, u 125, u 126, u 127, u 128, u 129, u 130, u 131, u 132, u 133, u 134, u 135, u 136, u 137, u 138, u 139, u 140, u 141, u 142, u 143, u 144, u 145, u 146, u 147, u 148, u 149, u 150, u 151, u 152, u 153, u 154, u 155, u 156, u 157, u 158, u 159, u 160, u 161, u 162, u 163, u 164, u 165, u 166, u 167, u 168, u 169, u 170, u 171, u 172, u 173, u 174, u 175, u 176, u 177, u 178, u 179, u 180, u 181, u 182, u 183, u 184, u 185, u 186, u 187, u 188, u 189, u 190, u 191, u 192, u 193, u 194, u 195, u 196, u 197, u 198, u 199, u 200, u 201, u 202, u 203, u 204, u 205, u 206, u 207, u 208, u 209, u 210, u 211, u 212, u 213, u 214, u 215, u 216, u 217, u 218, u 219, u 220, u 221, u 222, u 223, u 224, u 225, u 226, u 227, u 228, u 229, u 230, u 231, u 232, u 233, u 234, u 235, u 236, u 237, u 238, u 239, u 240, u 241, u 242, u 243, u 244, u 245, u 246, u 247, u 248, u 249, u 250, u 251, u 252, u 253, u 254, u 255, u 256, u 257, u 258, u 259, u 260, u 261, u 262, u 263], []⟩
def uOf (a : Act) (i : Nat) : Value := a.tmps.getD i undef
/-- What a loop leaves in the frame. -/
def KeepU (u u' : Nat → Value) : Prop := u' 0 = u 0 ∧ u' 1 = u 1 ∧ u' 2 = u 2 ∧ u' 3 = u 3 ∧ u' 4 = u 4 ∧ u' 5 = u 5 ∧ u' 6 = u 6 ∧ u' 7 = u 7 ∧ u' 8 = u 8 ∧ u' 9 = u 9 ∧ u' 10 = u 10 ∧ u' 11 = u 11 ∧ u' 12 = u 12 ∧ u' 13 = u 13 ∧ u' 14 = u 14 ∧ u' 15 = u 15

theorem stiRound (u : Nat → Value) (b g c k n : Nat) (ts : List ByteArray) (W : World) (Q : Exit → Act → World → Prop) (hS : StrsAt W g ts) (hM : MapAt W Tryd.prog 3 (some b) n (gl 0 (sposK ts k))) (hn : n ≤ k) (hk : k < ts.length) (hl : ts.length < 1000) (hz : ∀ t ∈ ts, 0 < t.size)
    (u20 : u 20 = .map (some b)) (u81 : u 81 = .slice (some ⟨g, 0, none⟩) ts.length c) (u82 : u 82 = .int .i64 (ts.length : Nat)) (u83 : u 83 = .int .i64 (k : Nat))
    (HQ : Hid (∀ a W' n', a = FrameU (uOf a) → KeepU u (uOf a) → uOf a 16 = u 16 → uOf a 17 = u 17 → uOf a 18 = u 18 → uOf a 19 = u 19 → uOf a 20 = .map (some b) → uOf a 81 = .slice (some ⟨g, 0, none⟩) ts.length c → uOf a 82 = .int .i64 (ts.length : Nat) → uOf a 83 = .int .i64 ((k + 1 : Nat) : Int) → MapAt W' Tryd.prog 3 (some b) n' (gl 0 (sposK ts (k + 1))) → n' ≤ k + 1 → Turn W W' (some b) ∨ W' = W → Q .normal a W')) :
    Code.wp Tryd.prog (L32 0) Q (FrameU u) W := by
  have d1 : decide ((k : Int) < (ts.length : Int)) = true := decide_eq_true (by omega)
  have d2 : decide (k < ts.length) = true := decide_eq_true hk
  have c0 := hS.2 k hk
  have ht0 := hz ts[k] (List.getElem_mem _)
  have hge : ts[k]? = some ts[k] := List.getElem?_eq_getElem hk
  obtain ⟨t, ht⟩ : ∃ t, ts[k] = t := ⟨_, rfl⟩
  rw [ht] at c0 ht0 hge
  have HS := Lib.hid hS
  have HM := Lib.hid hM
  clear hS hM hz ht
  have hle := MapAt.len_le HM.out
  rw [gl_len] at hle
  by_cases hst : t = starS
  · have hsp : sposK ts (k + 1) = sposK ts k ++ [k] := by rw [sposK, hge, if_pos (by rw [hst])]
    subst hst
    have HSP := Lib.hid hsp
    clear hsp hge
    unfold FrameU
    conv => arg 2; whnf
    have hg := gl_len 0 (sposK ts k)
    have HG := Lib.hid hg
    clear hg
    have hgl : (gl 0 (sposK ts k)).length < 1000 := by rw [gl_len]; omega
    generalize hG : gl 0 (sposK ts k) = G at *
    go_wp2_with (first
      | (at_len; refine wpList_len_at _ rfl _ 89 rfl 3 3 Tryd.underlying89 (some b) n G rfl HM.out ?_)
      | (at_mapUpdate; refine wpList_put_at _ rfl _ _ _ 89 rfl 3 3 Tryd.underlying3 Tryd.underlying89 b n G rfl HM.out (by unfold maxLen; omega) ((G.length : Int) + 1) rfl (by omega) (by omega) _ rfl ?_))
    intro W2 hM2 hT2
    have hM3 : MapAt W2 Tryd.prog 3 (some b) (n + 1) (gl 0 (sposK ts (k + 1))) := by
      rw [HSP.out, ← gl_put, hG, ← HG.out]
      exact hM2
    have HM3 := Lib.hid hM3
    have HT2 := Lib.hid hT2
    clear hM2 hT2 hM3
    go_wp2_with fail
    exact HQ.out _ W2 (n + 1) (by kernel_rfl) (by unfold KeepU; exact ⟨rfl, rfl, rfl, rfl, rfl, rfl, rfl, rfl, rfl, rfl, rfl, rfl, rfl, rfl, rfl, rfl⟩) rfl rfl rfl rfl rfl rfl rfl rfl HM3.out (by omega) (Or.inl HT2.out)
  · have hsp : sposK ts (k + 1) = sposK ts k := by rw [sposK, hge, if_neg (fun e => hst (Option.some.inj e)), List.append_nil]
    have hcase : (((t.size : Int) == 1) = true ∧ (t.size == 1) = true ∧ (((t[0]'ht0).toNat : Int) == 42) = false) ∨ (((t.size : Int) == 1) = false ∧ (t.size == 1) = false) := by
      by_cases hz : t.size = 1
      · exact Or.inl ⟨by rw [hz]; rfl, by rw [hz]; rfl, beq_eq_false_iff_ne.2 (fun e => hst (one_eq t hz 42 (by rw [b8_get t 0 ht0]; show (t[0]'ht0).toNat = 42; omega)))⟩
      · exact Or.inr ⟨beq_eq_false_iff_ne.2 (by omega), beq_eq_false_iff_ne.2 hz⟩
    have HSP := Lib.hid hsp
    clear hsp hge hst
    unfold FrameU
    conv => arg 2; whnf
    rcases hcase with ⟨e1, e2, e3⟩ | ⟨e1, e2⟩ <;> {
      go_wp2_with fail
      exact HQ.out _ W n (by kernel_rfl) (by unfold KeepU; exact ⟨rfl, rfl, rfl, rfl, rfl, rfl, rfl, rfl, rfl, rfl, rfl, rfl, rfl, rfl, rfl, rfl⟩) rfl rfl rfl rfl rfl rfl rfl rfl (by rw [HSP.out]; exact HM.out) (by omega) (Or.inr rfl) }
end Go.Proofs.YtpiceaehfpljnaaDoor
