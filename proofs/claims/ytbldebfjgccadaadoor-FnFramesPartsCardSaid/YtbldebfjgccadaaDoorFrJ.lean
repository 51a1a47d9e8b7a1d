/- What the walk of wsReadLoop leans on. -/
import Derived.Test.YtbldebfjgccadaaDoorFrI
namespace Go.Proofs.YtbldebfjgccadaaDoor
open Go.RowKit
attribute [local go_sem ↓] Go.wp_at_zero Go.wp_at_succ
set_option linter.unusedVariables false
set_option linter.unusedSimpArgs false

/-- Where frames stand, as the reader holds it. -/
def modeOf (fs ff : Bool) (rem : Nat) (key : List Nat) (mq : Nat) : Frm.Mode := if fs = true then .head ff else .body ff rem key mq
/-- What is read of what was there, if so much is read of what is left. -/
def Onto (m0 : Frm.Mode) (cur0 : List Nat) (ps0 : List Pc) (o1 : List Pc) (m : Frm.Mode) (cur : List Nat) (ps : List Pc) : Prop :=
  ∀ res, Frm.Run vld m cur (ps.map (·.xs)) res → Frm.Run vld m0 cur0 (ps0.map (·.xs)) (o1.map (·.xs) ++ res.1, res.2.1, res.2.2)
def LoopInv (E : Env) (g o n : Nat) (m0 : Frm.Mode) (cur0 : List Nat) (ps0 outs0 : List Pc) (T gk : Nat) (v13 : Value) (w : World) : Prop :=
  ∃ rem fs ff mp k0 k1 k2 k3 mq pos at_ K cur ps o1, v13 = .int .u64 (pos : Nat) ∧ gk = 2 * cur.length + (if fs = true then 0 else 1) ∧ K + gk ≤ T ∧ rem < 9223372036854775808 ∧ Hid (mp = mq % 4) ∧
    Hid (St E g o n w rem fs ff mp k0 k1 k2 k3 pos at_ K cur ps (outs0 ++ o1)) ∧ Hid (Onto m0 cur0 ps0 o1 (modeOf fs ff rem [k0, k1, k2, k3] mq) cur ps)
/-- What wsReadLoop tells. -/
def LoopPost (E : Env) (g o n : Nat) (m0 : Frm.Mode) (cur0 : List Nat) (ps0 outs0 : List Pc) (T : Nat) (e : Ending) (w' : World) : Prop :=
  (e = .returned .nilIface ∧ ∃ rem fs ff mp k0 k1 k2 k3 mq at_ K ps o1, K ≤ T ∧ rem < 9223372036854775808 ∧ mp = mq % 4 ∧ St E g o n w' rem fs ff mp k0 k1 k2 k3 n at_ K [] ps (outs0 ++ o1) ∧ Onto m0 cur0 ps0 o1 (modeOf fs ff rem [k0, k1, k2, k3] mq) [] ps) ∨
  (∃ a st o1, e = .returned (errV a) ∧ Fin E w' st (outs0 ++ o1) ∧ Frm.Run vld m0 cur0 (ps0.map (·.xs)) (o1.map (·.xs), st, decide (st ≠ 0)))

/-- Behind a frame's head. -/
def CutH (E : Env) (g o n : Nat) (m0 : Frm.Mode) (cur0 : List Nat) (ps0 outs0 : List Pc) (T gk : Nat) (v13 : Value) (w : World) : Prop :=
  ∃ rem ff mp k0 k1 k2 k3 mq pos at_ K cur ps o1, v13 = .int .u64 (pos : Nat) ∧ (2 * cur.length + 1 < gk ∨ (0 < cur.length ∧ 2 * cur.length + 1 = gk)) ∧ K + gk ≤ T ∧ rem < 9223372036854775808 ∧ Hid (mp = mq % 4) ∧
    Hid (St E g o n w rem false ff mp k0 k1 k2 k3 pos at_ K cur ps (outs0 ++ o1)) ∧ Hid (Onto m0 cur0 ps0 o1 (.body ff rem [k0, k1, k2, k3] mq) cur ps)


/-- wsGet, as memory stands. -/
def GetSt (E : Env) (g o n : Nat) (rem : Nat) (fs ff : Bool) (mp k0 k1 k2 k3 K needed : Nat) (cur : List Nat) (ps outs : List Pc) (e : Ending) (w' : World) : Prop :=
  (Frm.get needed cur (ps.map (·.xs)) = none ∧ e = .returned (.tuple #[.slice none 0 0, .int .u64 0, errV E.qe]) ∧ Fin E w' 0 outs) ∨
  ∃ b g' o' c' pos' at' ps', Frm.get needed cur (ps.map (·.xs)) = some (b, cur.drop needed, ps'.map (·.xs)) ∧ e = .returned (.tuple #[.slice (some ⟨g', o', none⟩) needed c', .int .u64 (pos' : Nat), .nilIface]) ∧ b.length = needed ∧ needed ≤ c' ∧ Lie w' g' o' b ∧
    (g' < E.lim ∨ E.BO ≤ g') ∧ St E g o n w' rem fs ff mp k0 k1 k2 k3 pos' at' K (cur.drop needed) ps' outs
theorem wsGet_St {E : Env} (ok : E.Ok) {g o n cc needed : Nat} {w : World} {rem : Nat} {fs ff : Bool} {mp k0 k1 k2 k3 pos at_ K : Nat} {cur : List Nat} {ps outs : List Pc} (h : St E g o n w rem fs ff mp k0 k1 k2 k3 pos at_ K cur ps outs) (hg : E.B ≤ g ∧ g < E.lim ∧ g ≠ E.A) (hcc : n ≤ cc) (hn : n < 1000000) (h0 : 0 < needed) (h1 : needed < 1000) :
    Calls Tryd.prog 24 #[.iface 69 (.pointer (some ⟨E.p, 0, none⟩)), .slice (some ⟨g, o, none⟩) n cc, .int .u64 pos, .int .u64 needed] w fun e w' => GetSt E g o n rem fs ff mp k0 k1 k2 k3 K needed cur ps outs e w' := by
  have hsz := h.size
  have pB := ok.pB
  refine (wsGet_any E.p E.A E.N E.cap at_ ps g o n cc pos needed cur E.qe w h0 h.len hcc hn h1 h.here h.left (by have := ok.aLim; have := ok.lp; omega) (fun x hx => ?_) ?_ ?_ ?_).mono ?_
  · have := h.pcs x hx
    have := ok.lp
    exact ⟨by omega, by omega, by omega⟩
  · have := h.below.cell (p := ⟨1, 0, none⟩) (by have := ok.b4; show 1 < E.B; omega)
    rw [this]; exact ok.eof
  · have := ok.lp; have := ok.aLim; have := ok.bA; have := ok.b4; omega
  · have := ok.bA; have := ok.b4; omega
  rintro e w1 ⟨hm, hr⟩
  rcases hr with ⟨hget, rfl⟩ | ⟨b, g', o', c', a', pos', ps', hget, rfl, hp', hbl, hcl, hlie, hps, hadv, hpl⟩
  · exact Or.inl ⟨hget, rfl, h.fin.conn ok hm⟩
  · refine Or.inr ⟨b, g', o', c', pos', a', ps', hget, rfl, hbl, hcl, hlie, ?_, (h.conn ok (Or.inl hg.2) hm hps hadv).skip needed pos' hp'⟩
    rcases hpl with ⟨rfl, _⟩ | hpl
    · exact Or.inl hg.2.1
    · exact Or.inr (by omega)

theorem LoopPost.bad {E : Env} {g o n : Nat} {m0 : Frm.Mode} {cur0 c : List Nat} {ps0 outs0 ps o1 : List Pc} {T x : Nat} {ff : Bool} {a : Addr} {w' : World} (hon : Onto m0 cur0 ps0 o1 (.head ff) (x :: c) ps) (hh : Frm.head1 vld ff x c (ps.map (·.xs)) = .bad) (hf : Fin E w' 0 (outs0 ++ o1)) : LoopPost E g o n m0 cur0 ps0 outs0 T (.returned (errV a)) w' := by
  refine Or.inr ⟨a, 0, o1, rfl, hf, ?_⟩
  have := hon _ (Frm.Run.bad ff x c _ hh)
  simpa using this
theorem LoopPost.closed {E : Env} {g o n : Nat} {m0 : Frm.Mode} {cur0 c : List Nat} {ps0 outs0 ps o1 : List Pc} {T x st : Nat} {ff : Bool} {a : Addr} {w' : World} (hon : Onto m0 cur0 ps0 o1 (.head ff) (x :: c) ps) (hh : Frm.head1 vld ff x c (ps.map (·.xs)) = .closed st) (h0 : st ≠ 0) (hf : Fin E w' st (outs0 ++ o1)) : LoopPost E g o n m0 cur0 ps0 outs0 T (.returned (errV a)) w' := by
  refine Or.inr ⟨a, st, o1, rfl, hf, ?_⟩
  have := hon _ (Frm.Run.closed ff x c _ st hh)
  simpa [h0] using this
theorem Onto.ctrl {m0 : Frm.Mode} {cur0 c c' : List Nat} {ps0 ps ps' o1 : List Pc} {x : Nat} {ff : Bool} (hon : Onto m0 cur0 ps0 o1 (.head ff) (x :: c) ps) (hh : Frm.head1 vld ff x c (ps.map (·.xs)) = .ctrl c' (ps'.map (·.xs))) : Onto m0 cur0 ps0 o1 (.head ff) c' ps' :=
  fun res hr => hon res (Frm.Run.ctrl ff x c _ c' _ res hh hr)
theorem Onto.data {m0 : Frm.Mode} {cur0 c c' : List Nat} {ps0 ps ps' o1 : List Pc} {x rem : Nat} {key : List Nat} {ff ff' : Bool} (hon : Onto m0 cur0 ps0 o1 (.head ff) (x :: c) ps) (hh : Frm.head1 vld ff x c (ps.map (·.xs)) = .data ff' rem key c' (ps'.map (·.xs))) : Onto m0 cur0 ps0 o1 (.body ff' rem key 0) c' ps' :=
  fun res hr => hon res (Frm.Run.data ff x c _ ff' rem key c' _ res hh hr)
theorem Onto.body {m0 : Frm.Mode} {cur0 cur : List Nat} {ps0 ps o1 : List Pc} {rem mq mp d g o c : Nat} {key : List Nat} {ff : Bool} (hon : Onto m0 cur0 ps0 o1 (.body ff rem key mq) cur ps) (h0 : 0 < cur.length) (hd : d = min rem cur.length) (hm : mp = mq % 4) :
    Onto m0 cur0 ps0 (o1 ++ [⟨g, o, c, Frm.unmask key mp (cur.take d)⟩]) (modeOf (decide (rem - d = 0)) ff (rem - d) key (mq + d)) (cur.drop d) ps := by
  intro res hr
  cases cur with
  | nil => simp at h0
  | cons x cs =>
    have ht : (x :: cs).take d = (x :: cs).take rem := by
      by_cases h : rem ≤ (x :: cs).length
      · rw [show d = rem by omega]
      · rw [show d = (x :: cs).length by omega, List.take_length, List.take_of_length_le (by omega)]
    have hdr : (x :: cs).drop d = (x :: cs).drop rem := by
      by_cases h : rem ≤ (x :: cs).length
      · rw [show d = rem by omega]
      · rw [show d = (x :: cs).length by omega, List.drop_length, List.drop_of_length_le (by omega)]
    have hu : Frm.unmask key mp ((x :: cs).take d) = Frm.unmask key mq ((x :: cs).take rem) := by
      rw [ht]; exact Frm.unmask_mod key _ _ _ (by omega)
    obtain ⟨out, n, ok⟩ := res
    have := hon _ (Frm.Run.body ff rem key mq x cs (ps.map (·.xs)) out n ok (by
      rw [← hdr]
      simp only [List.length_cons] at hd
      by_cases h : rem ≤ cs.length + 1
      · rw [if_pos h]
        have e : rem - d = 0 := by omega
        unfold modeOf at hr
        rw [decide_eq_true e, if_pos rfl] at hr
        exact hr
      · rw [if_neg h]
        have e : ¬ rem - d = 0 := by omega
        unfold modeOf at hr
        rw [decide_eq_false e, if_neg (by decide)] at hr
        rw [show d = cs.length + 1 by omega] at hr ⊢
        exact hr))
    rw [List.map_append, hu]
    simpa using this
theorem closing_ne {v : List Nat → Bool} {l : List Nat} {n : Nat} (h : Frm.closing v l = some n) : n ≠ 0 := by
  unfold Frm.closing at h
  split at h
  · cases h; decide
  · split at h
    · cases h
    · simp only at h
      split at h
      · rename_i hs
        split at h
        · cases h; decide
        · cases h
          rintro e
          rw [e] at hs
          revert hs; decide
      · cases h
theorem bits_and (k : IntKind) (j : Nat) (hj : j ≤ k.bits) (hk : ∀ n : Int, 0 ≤ n → n < 2 ^ j → k.wrap n = n) (a b : Nat) (ha : a < 2 ^ j) (hb : b < 2 ^ j) :
    bits .and k a b = ((a &&& b : Nat) : Int) := by
  have hp : 2 ^ j ≤ 2 ^ k.bits := Nat.pow_le_pow_right (by decide) hj
  have ha' : a % 2 ^ k.bits = a := Nat.mod_eq_of_lt (Nat.lt_of_lt_of_le ha hp)
  have hb' : b % 2 ^ k.bits = b := Nat.mod_eq_of_lt (Nat.lt_of_lt_of_le hb hp)
  simp only [bits, BitVec.ofInt_natCast, BitVec.toNat_and, BitVec.toNat_ofNat, ha', hb']
  exact hk _ (Int.natCast_nonneg _) (by have := Nat.and_lt_two_pow a hb; exact_mod_cast this)
theorem u8_and (a b : Nat) (ha : a < 256) (hb : b < 256) : bits .and .u8 (a : Int) (b : Int) = ((a &&& b : Nat) : Int) := bits_and .u8 8 (by decide) wraps_u8 a b (by omega) (by omega)
theorem and_facts : ∀ x, x < 256 → (x &&& 15 = x % 16) ∧ (x &&& 127 = x % 128) ∧ ((x &&& 128 = 0) ↔ ¬ 128 ≤ x) ∧ ((x / 16 % 8 = 0) ↔ (x &&& 48 = 0 ∧ x &&& 64 = 0)) := by decide +kernel
theorem slice_win0 (kl kh : IntKind) (g o n c l h : Nat) (hlh : l ≤ h) (hh : h ≤ c) (hl : l < c) (W : World) : (Instr.slice 52 (.slice (some ⟨g, o, none⟩) n c) (some (.int kl (l : Int))) (some (.int kh (h : Int))) none).run Tryd.prog W = .ok (.slice (some ⟨g, o + l, none⟩) (h - l) (c - l)) W := by
  have ht' : Tryd.prog.underlying 52 = some (.slice (Tryd.prog.elem 52)) := by simp [Program.elem, under52]
  have he : Tryd.prog.elem 52 = 5 := by simp [Program.elem, under52]
  rw [run_slice_lh W 52 _ _ _ ht' kl kh _ _ (by omega) (by omega) (by omega), he, size5]
  have hne : ¬ c = l := by omega
  by_cases h0 : l = 0
  · subst h0
    simp [Result.andThen, sliced, Addr.add, hne]
  · simp [Result.andThen, sliced, Addr.add, hne, h0]
theorem u64_sum (a b : Nat) (h : a + b < 18446744073709551616) : IntKind.u64.wrap ((a : Int) + (b : Int)) = ((a + b : Nat) : Int) := by
  have : IntKind.u64.wrap ((a : Int) + (b : Int)) = ((a : Int) + (b : Int)) % 18446744073709551616 := by simp [IntKind.wrap, IntKind.bits, IntKind.signed]
  rw [this]; omega
theorem u64_sub (a b : Nat) (h : b ≤ a) (h2 : a < 18446744073709551616) : IntKind.u64.wrap ((a : Int) - (b : Int)) = ((a - b : Nat) : Int) := by
  have : IntKind.u64.wrap ((a : Int) - (b : Int)) = ((a : Int) - (b : Int)) % 18446744073709551616 := by simp [IntKind.wrap, IntKind.bits, IntKind.signed]
  rw [this]; omega
/-- A cell of the reader. -/
theorem rd_cell {w : World} {r rem : Nat} {fs ff : Bool} {mp k0 k1 k2 k3 : Nat} (h : w.heap[r]? = some (.cells (rdCells rem fs ff mp k0 k1 k2 k3) 68 (0, 0))) :
    w.cell? ⟨r, 0, none⟩ = some (.int .u64 rem) ∧ w.cell? ⟨r, 1, none⟩ = some (.bool fs) ∧ w.cell? ⟨r, 2, none⟩ = some (.bool ff) ∧ w.cell? ⟨r, 3, none⟩ = some (.bool false) ∧ w.cell? ⟨r, 4, none⟩ = some (.bool true) ∧ w.cell? ⟨r, 5, none⟩ = some (.int .u8 mp) ∧ ∀ i, w.frozen? ⟨r, i, none⟩ = false := by
  refine ⟨?_, ?_, ?_, ?_, ?_, ?_, fun i => Lib.frozen_of_heap h _⟩ <;> (rw [Lib.cell_of_heap h]; rfl)
theorem rd_fs {w : World} {r rem : Nat} {fs ff : Bool} {mp k0 k1 k2 k3 : Nat} (h : w.heap[r]? = some (.cells (rdCells rem fs ff mp k0 k1 k2 k3) 68 (0, 0))) (x : Bool) : (w.setCell ⟨r, 1, none⟩ (.bool x)).heap[r]? = some (.cells (rdCells rem x ff mp k0 k1 k2 k3) 68 (0, 0)) := by
  rw [setCell_heap h]; rfl
theorem rd_ff {w : World} {r rem : Nat} {fs ff : Bool} {mp k0 k1 k2 k3 : Nat} (h : w.heap[r]? = some (.cells (rdCells rem fs ff mp k0 k1 k2 k3) 68 (0, 0))) (x : Bool) : (w.setCell ⟨r, 2, none⟩ (.bool x)).heap[r]? = some (.cells (rdCells rem fs x mp k0 k1 k2 k3) 68 (0, 0)) := by
  rw [setCell_heap h]; rfl
theorem rd_fc {w : World} {r rem : Nat} {fs ff : Bool} {mp k0 k1 k2 k3 : Nat} (h : w.heap[r]? = some (.cells (rdCells rem fs ff mp k0 k1 k2 k3) 68 (0, 0))) : (w.setCell ⟨r, 3, none⟩ (.bool false)).heap[r]? = some (.cells (rdCells rem fs ff mp k0 k1 k2 k3) 68 (0, 0)) := by
  rw [setCell_heap h]; rfl
theorem rd_mp {w : World} {r rem : Nat} {fs ff : Bool} {mp k0 k1 k2 k3 : Nat} (h : w.heap[r]? = some (.cells (rdCells rem fs ff mp k0 k1 k2 k3) 68 (0, 0))) (x : Nat) : (w.setCell ⟨r, 5, none⟩ (.int .u8 x)).heap[r]? = some (.cells (rdCells rem fs ff x k0 k1 k2 k3) 68 (0, 0)) := by
  rw [setCell_heap h]; rfl
theorem mv_set (r i : Nat) (w : World) (v : Value) : Mv (fun k => k = r) w (w.setCell ⟨r, i, none⟩ v) := Mv.setCell (X := fun k => k = r) (Mv.refl _ _) (b := r) (fun _ => rfl) _ _
end Go.Proofs.YtbldebfjgccadaaDoor
