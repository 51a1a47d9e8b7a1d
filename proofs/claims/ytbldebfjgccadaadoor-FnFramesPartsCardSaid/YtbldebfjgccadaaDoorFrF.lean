/- The walk of wsGet: some bytes of the buffer and of what comes. -/
import Derived.Test.YtbldebfjgccadaaDoorFrE
namespace Go.Proofs.YtbldebfjgccadaaDoor
open Go.RowKit
attribute [local go_sem ↓] Go.wp_at_zero Go.wp_at_succ
set_option linter.unusedVariables false
set_option linter.unusedSimpArgs false

theorem slice_win (kl kh : IntKind) (g o n c l h : Nat) (hlh : l < h) (hh : h ≤ c) (W : World) : (Instr.slice 52 (.slice (some ⟨g, o, none⟩) n c) (some (.int kl (l : Int))) (some (.int kh (h : Int))) none).run Tryd.prog W = .ok (.slice (some ⟨g, o + l, none⟩) (h - l) (c - l)) W := by
  have ht' : Tryd.prog.underlying 52 = some (.slice (Tryd.prog.elem 52)) := by simp [Program.elem, under52]
  have he : Tryd.prog.elem 52 = 5 := by simp [Program.elem, under52]
  rw [run_slice_lh W 52 _ _ _ ht' kl kh _ _ (by omega) (by omega) (by omega), he, size5]
  have hne : ¬ c = l := by omega
  by_cases h0 : l = 0
  · subst h0
    simp [Result.andThen, sliced, Addr.add, hne]
  · simp [Result.andThen, sliced, Addr.add, hne, h0]
theorem slice_fromU (g o n c l : Nat) (hl : l ≤ n) (hc : n ≤ c) : ∃ o2, (l < n → o2 = o + l) ∧ ∀ W, (Instr.slice 52 (.slice (some ⟨g, o, none⟩) n c) (some (.int .u64 (l : Int))) none none).run Tryd.prog W = .ok (.slice (some ⟨g, o2, none⟩) (n - l) (c - l)) W := by
  refine ⟨if c = l then o else o + l, fun h => if_neg (by omega), fun W => ?_⟩
  have ht' : Tryd.prog.underlying 52 = some (.slice (Tryd.prog.elem 52)) := by simp [Program.elem, under52]
  have he : Tryd.prog.elem 52 = 5 := by simp [Program.elem, under52]
  rw [run_slice_l W 52 _ _ _ ht' .u64 _ (by omega) (by omega), he, size5]
  by_cases h0 : c = l
  · simp [Result.andThen, sliced, h0]
  · by_cases h1 : l = 0
    · subst h1; simp [Result.andThen, sliced, Addr.add, h0]
    · simp [Result.andThen, sliced, Addr.add, h0, h1]

set_option maxHeartbeats 4000000 in
set_option maxRecDepth 100000 in
theorem wsGet_here (p g o n c pos needed : Nat) (w : World) (h0 : 0 < needed) (h1 : pos + needed ≤ n) (hc : n ≤ c) (hn : n < 1000000) :
    Calls Tryd.prog 24 #[.iface 69 (.pointer (some ⟨p, 0, none⟩)), .slice (some ⟨g, o, none⟩) n c, .int .u64 pos, .int .u64 needed] w fun e w' => e = .returned (.tuple #[.slice (some ⟨g, o + pos, none⟩) needed (c - pos), .int .u64 ((pos + needed : Nat) : Int), .nilIface]) ∧ w = w' := by
  have e1 : decide ((needed : Int) ≤ (n : Int) - (pos : Int)) = true := decide_eq_true (by omega)
  have hs := slice_win .u64 .u64 g o n c pos (pos + needed) (by omega) (by omega)
  simp only [Int.natCast_add, Nat.add_sub_cancel_left] at hs
  go_enter Tryd.func24, Tryd.ntmps24
  go_wp2_with fail
  go_ret3
  exact ⟨rfl, rfl⟩
theorem fill_zero (L : List (List Nat)) : Frm.fill 0 L = some ([], L) := by
  cases L with
  | nil => rfl
  | cons p r => simp [Frm.fill]
theorem fill_nil (k : Nat) (hk : 0 < k) (L : List (List Nat)) : Frm.fill k ([] :: L) = Frm.fill k L := by
  rw [Frm.fill, if_neg (by simp; omega)]
  simp
theorem fill_empty (k : Nat) (hk : 0 < k) : ∀ (es L : List (List Nat)), (∀ x ∈ es, x = []) → Frm.fill k (es ++ L) = Frm.fill k L
  | [], L, _ => rfl
  | e :: es, L, h => by
    obtain rfl := h e (by simp)
    rw [List.cons_append, fill_nil k hk, fill_empty k hk es L (fun x hx => h x (by simp [hx]))]
theorem fill_none (k : Nat) (hk : 0 < k) (es : List (List Nat)) (h : ∀ x ∈ es, x = []) : Frm.fill k es = none := by
  rw [← List.append_nil es, fill_empty k hk es [] h, Frm.fill, if_neg (by omega)]
theorem fill_step (k n : Nat) (hk : 0 < k) (q : List Nat) (t : List (List Nat)) (hn : n = min k q.length) : Frm.fill k (q :: t) = (Frm.fill (k - n) (q.drop n :: t)).map fun x => (q.take n ++ x.1, x.2) := by
  rw [Frm.fill]
  by_cases h : k ≤ q.length
  · rw [if_pos h]
    obtain rfl : n = k := by omega
    rw [Nat.sub_self, fill_zero]
    simp
  · rw [if_neg h]
    obtain rfl : n = q.length := by omega
    rw [List.drop_length, fill_nil _ (by omega), List.take_length]

/-- Pieces that are left of pieces. -/
structure Adv (ps l : List Pc) : Prop where
  sub : (l.map (·.g)).Sublist (ps.map (·.g))
  each : ∀ x ∈ l, ∃ y ∈ ps, x.g = y.g ∧ x.xs.length ≤ y.xs.length ∧ (x.xs ≠ [] → y.xs ≠ [] ∧ y.o ≤ x.o)
theorem Adv.refl (ps : List Pc) : Adv ps ps := ⟨List.Sublist.refl _, fun x hx => ⟨x, hx, rfl, Nat.le_refl _, fun h => ⟨h, Nat.le_refl _⟩⟩⟩
theorem Adv.trans {a b c : List Pc} (h : Adv a b) (k : Adv b c) : Adv a c :=
  ⟨k.sub.trans h.sub, fun x hx => by
    obtain ⟨y, hy, e1, l1, e2⟩ := k.each x hx
    obtain ⟨z, hz, f1, l2, f2⟩ := h.each y hy
    exact ⟨z, hz, e1.trans f1, Nat.le_trans l1 l2, fun hn => ⟨(f2 (e2 hn).1).1, Nat.le_trans (f2 (e2 hn).1).2 (e2 hn).2⟩⟩⟩
theorem Adv.read (es : List Pc) (q : Pc) (t : List Pc) (n o2 c2 : Nat) (ho : n < q.xs.length → o2 = q.o + n) : Adv (es ++ q :: t) (⟨q.g, o2, c2, q.xs.drop n⟩ :: t) := by
  refine ⟨?_, fun x hx => ?_⟩
  · rw [List.map_append]
    exact (List.Sublist.refl _).trans (List.sublist_append_right _ _)
  · rcases List.mem_cons.1 hx with rfl | hx
    · refine ⟨q, by simp, rfl, by simp, fun hne => ?_⟩
      have hl : n < q.xs.length := by
        rcases Nat.lt_or_ge n q.xs.length with h | h
        · exact h
        · exact absurd (List.drop_of_length_le h) hne
      exact ⟨fun e => by rw [e] at hl; simp at hl, by show q.o ≤ o2; rw [ho hl]; omega⟩
    · exact ⟨x, by simp [hx], rfl, Nat.le_refl _, fun h => ⟨h, Nat.le_refl _⟩⟩

/-- How far wsGet has come. -/
structure GetInv (p A N cap gb needed : Nat) (cur : List Nat) (ps : List Pc) (w w' : World) (s a : Nat) (l : List Pc) (m : List Nat) : Prop where
  mv : Mv (fun k => k = p ∨ k = A) w w'
  left : Ps w' p A N cap a l
  adv : Adv ps l
  len : s = cur.length + m.length
  lie : Lie w' gb 0 (cur ++ m)
  there : w'.there gb 0 needed
  fills : Frm.fill (needed - cur.length) (ps.map (·.xs)) = (Frm.fill (needed - s) (l.map (·.xs))).map fun x => (m ++ x.1, x.2)
theorem split_pieces : ∀ (l : List Pc), (∀ x ∈ l, x.xs = []) ∨ ∃ es q t, l = es ++ q :: t ∧ (∀ x ∈ es, x.xs = []) ∧ 0 < q.xs.length
  | [] => Or.inl (by simp)
  | x :: l => by
    by_cases hx : x.xs = []
    · rcases split_pieces l with h | ⟨es, q, t, rfl, h1, h2⟩
      · exact Or.inl (by simpa [hx] using h)
      · exact Or.inr ⟨x :: es, q, t, rfl, by simpa [hx] using h1, h2⟩
    · exact Or.inr ⟨[], x, l, rfl, by simp, by cases h : x.xs with | nil => exact absurd h hx | cons => simp⟩

/-- What wsGet tells. -/
def GetPost (p A N cap g o n c pos needed : Nat) (cur : List Nat) (ps : List Pc) (eof : Value) (w : World) (e : Ending) (w' : World) : Prop :=
  Mv (fun k => k = p ∨ k = A) w w' ∧
  ((Frm.get needed cur (ps.map (·.xs)) = none ∧ e = .returned (.tuple #[.slice none 0 0, .int .u64 0, eof])) ∨
   (∃ (b : List Nat) (g' o' c' a' pos' : Nat) (ps' : List Pc), Frm.get needed cur (ps.map (·.xs)) = some (b, cur.drop needed, ps'.map (·.xs)) ∧ e = .returned (.tuple #[.slice (some ⟨g', o', none⟩) needed c', .int .u64 pos', .nilIface]) ∧
     pos' + (cur.drop needed).length = n ∧ b.length = needed ∧ needed ≤ c' ∧ Lie w' g' o' b ∧ Ps w' p A N cap a' ps' ∧ Adv ps ps' ∧ ((g' = g ∧ o' = o + pos ∧ needed ≤ cur.length) ∨ w.heap.size ≤ g')))
theorem nil_read (a : Addr) (w : World) : (nilAhead 221 69 (.pointer (some a)) "Read").run Tryd.prog w = .ok (some false) w := by kernel_rfl
theorem method_read (a : Addr) (w : World) : (method 221 69 (.pointer (some a)) "Read").run Tryd.prog w = .ok (54, .pointer (some a)) w := by kernel_rfl
theorem ret_get {s : Value} {a b : Int} {v : Value} (h : a = b) : Ending.returned (.tuple #[s, .int .u64 a, v]) = .returned (.tuple #[s, .int .u64 b, v]) := by rw [h]
set_option maxHeartbeats 4000000 in
set_option maxRecDepth 100000 in
theorem wsGet_more (p A N cap at_ : Nat) (ps : List Pc) (g o n c pos needed : Nat) (cur : List Nat) (qe : Addr) (w : World) (h0 : 0 < needed) (hp : pos + cur.length = n) (h1 : cur.length < needed) (hc : n ≤ c) (hn : n < 1000000) (hm : needed < 1000) (hx : Lie w g (o + pos) cur)
    (hP : Ps w p A N cap at_ ps) (hpA : p ≠ A) (hg : ∀ x ∈ ps, x.g ≠ p ∧ x.g ≠ A ∧ x.g < w.heap.size) (hE : w.cell? ⟨1, 0, none⟩ = some (.iface 97 (.pointer (some qe)))) (hE1 : 1 ≠ p) (hE2 : 1 ≠ A) :
    Calls Tryd.prog 24 #[.iface 69 (.pointer (some ⟨p, 0, none⟩)), .slice (some ⟨g, o, none⟩) n c, .int .u64 pos, .int .u64 needed] w fun e w' => GetPost p A N cap g o n c pos needed cur ps (.iface 97 (.pointer (some qe))) w e w' := by
  have e1 : decide ((needed : Int) ≤ (n : Int) - (pos : Int)) = false := decide_eq_false (by omega)
  obtain ⟨vs, hvs⟩ : ∃ vs, (cur.map fun x : Nat => Value.int .u8 x) = vs := ⟨_, rfl⟩
  have HL : Hid (vs.length = cur.length) := Lib.hid (by rw [← hvs]; simp)
  have HV : Hid (∀ j (h : j < cur.length) (h2 : j < vs.length), vs[j] = .int .u8 (cur[j] : Nat)) := Lib.hid (fun j h h2 => by subst hvs; simp)
  have HM : Hid (∀ v ∈ vs, v.oneCell' = true) := Lib.hid (fun v hv => by rw [← hvs] at hv; obtain ⟨x, _, rfl⟩ := List.mem_map.1 hv; rfl)
  have HX := Lib.hid hx
  have HP := Lib.hid hP
  have HG := Lib.hid hg
  have HE := Lib.hid hE
  have hmk := fun W => run_make_row' (P := Tryd.prog) 52 5 (.int .u8 0) 1 under52 (by kernel_rfl) rfl .u64 .u64 needed (by omega) (by omega) W
  obtain ⟨o2, ho2, hsl⟩ := slice_fromU g o n c pos (by omega) hc
  have HO := Lib.hid ho2
  have hnp : n - pos = cur.length := by omega
  rw [hnp] at hsl
  have HC : Hid (n = pos + cur.length) := Lib.hid (by omega)
  have hwl : ∀ b o, w.cell? ⟨b, o, none⟩ ≠ none → b < w.heap.size := fun b o h => by
    cases e : w.cell? ⟨b, o, none⟩ with
    | none => exact absurd e h
    | some v => exact World.block_lt_of_cell? w _ e
  obtain ⟨W1, hW1⟩ : ∃ W1, (w.alloc (Obj.cells (madeCells #[Value.int IntKind.u8 0] needed) 5)) = W1 := ⟨_, rfl⟩
  have hth : W1.there w.heap.size 0 needed := fun j hj => by
    subst hW1
    refine ⟨?_, Lib.frozen_of_heap (heap_alloc_new w _) _⟩
    rw [Lib.cell_of_heap (heap_alloc_new w _), Nat.zero_add]
    simp [madeCells, hj]
  have hcp : (Builtin.copy_ #[52, 52] 3 #[.slice (some ⟨w.heap.size, 0, none⟩) needed needed, .slice (some ⟨g, o2, none⟩) cur.length (c - pos)]).run Tryd.prog W1 = .ok (.int .i64 cur.length) (W1.setCells w.heap.size 0 vs) := by
    have := run_copy_cells (P := Tryd.prog) W1 52 52 3 5 w.heap.size 0 needed needed ⟨g, o2, none⟩ cur.length (c - pos) vs under52 (by kernel_rfl) (by rw [HL.out]; exact (Nat.min_eq_left (by omega)).symm) (fun j v hv => by
      rw [Addr.add_mid]
      obtain ⟨hj, rfl⟩ := List.getElem?_eq_some_iff.1 hv
      have hj2 : j < cur.length := by rw [← HL.out]; exact hj
      have hb := (HX.out j hj2).1
      rw [ho2 (by omega), HV.out j hj2 hj, ← hb]
      subst hW1
      exact ((Below.refl w.heap.size w).alloc (Nat.le_refl _) _).cell (p := ⟨g, o + pos + j, none⟩) (World.block_lt_of_cell? w _ hb)) (fun j hj => (hth j (by have := HL.out; omega)).1) (fun j hj => (hth j (by have := HL.out; omega)).2) HM.out
    rw [HL.out] at this
    exact this
  have I0 : Hid (GetInv p A N cap w.heap.size needed cur ps w (W1.setCells w.heap.size 0 vs) cur.length at_ ps []) := Lib.hid ⟨by
      subst hW1
      exact ((Mv.refl _ w).alloc _).setCells (fun h => absurd h (Nat.lt_irrefl _)) _ _, HP.out.bent (fun k hk _ => by
        rw [World.heap_setCells_other _ _ _ _ (by subst hW1; simp; omega) (by omega)]
        subst hW1
        exact ((Below.refl w.heap.size w).alloc (Nat.le_refl _) _).block k hk), Adv.refl _, by simp, fun i hi => by
        rw [List.append_nil] at hi
        have hi2 : i < vs.length := by rw [HL.out]; exact hi
        rw [World.cell?_setCells_in w.heap.size _ 0 W1 (fun j hj => (hth j (by have := HL.out; omega)).1) i hi2]
        simp only [List.append_nil]
        exact ⟨by rw [HV.out i hi hi2], (HX.out i hi).2.1, by rw [World.frozen?_setCells]; have := (hth i (by omega)).2; rwa [Nat.zero_add] at this ⊢⟩, World.there_setCells hth _ _ _, by
        cases e : Frm.fill (needed - cur.length) (ps.map (·.xs)) <;> simp⟩
  generalize hW2 : W1.setCells w.heap.size 0 vs = W2 at *
  subst hW1
  clear hx hP hg hE hvs ho2 hnp hwl hth hW2
  go_enter Tryd.func24, Tryd.ntmps24
  go_wp2_with fail
  go_loopg [13] (needed - cur.length) (fun gk v13 w' => ∃ (s a : Nat) (l : List Pc) (m : List Nat), v13 = .int .u64 s ∧ gk + s = needed ∧ Hid (GetInv p A N cap w.heap.size needed cur ps w w' s a l m))
  case atStart => exact ⟨cur.length, at_, ps, [], rfl, by omega, I0⟩
  case round =>
    obtain ⟨s, a, l, m, rfl, hgk, hI⟩ := hrel
    by_cases hs : s = needed
    · have e2 : ((s : Int) != (needed : Int)) = false := by simp [hs]
      have e3 : ((s : Int) == (needed : Int)) = true := by simp [hs]
      have e4 : (s == needed) = true := by simp [hs]
      have e5 : (s != needed) = false := by simp [hs]
      have HS := Lib.hid hs
      clear hs
      go_wp2_with fail
      go_ret3
      have hs := HS.out
      refine ⟨hI.out.mv, Or.inr ⟨cur ++ m, w.heap.size, 0, needed, a, n, l, ?_, ret_get (by omega), by rw [List.drop_of_length_le (by omega)]; rfl, by have := hI.out.len; simp; omega, Nat.le_refl _, hI.out.lie, hI.out.left, hI.out.adv, Or.inr (Nat.le_refl _)⟩⟩
      have hf := hI.out.fills
      rw [show needed - s = 0 by omega, fill_zero] at hf
      unfold Frm.get
      rw [if_neg (by omega), hf, List.drop_of_length_le (by omega)]
      simp
    · have e2 : ((s : Int) != (needed : Int)) = true := by simp; omega
      have e3 : ((s : Int) == (needed : Int)) = false := by simp; omega
      have e4 : (s == needed) = false := by simp; omega
      have e5 : (s != needed) = true := by simp; omega
      have hs2 : s < needed := by omega
      have hsl := slice_win .u64 .i64 w.heap.size 0 needed needed s needed (by omega) (by omega)
      clear hs
      go_wp2_with fail
      have hnil := nil_read
      have hmet := method_read
      have hgl : ∀ x ∈ l, x.g ≠ p ∧ x.g ≠ A ∧ x.g < w.heap.size := fun x hx => by
        obtain ⟨y, hy, e, _⟩ := hI.out.adv.each x hx
        rw [e]; exact HG.out y hy
      have HGL := Lib.hid hgl
      clear hgl
      have lp : p < w.heap.size := Lib.lt_of_heap HP.out.blk
      have lA : A < w.heap.size := by obtain ⟨cs, t, h⟩ := HP.out.row; exact Lib.lt_of_heap h
      have hEw : wr.cell? ⟨1, 0, none⟩ = some (.iface 97 (.pointer (some qe))) := (World.cell?_of_block (w := w) (hI.out.mv.block 1 (World.block_lt_of_cell? w _ HE.out) (fun h => by rcases h with h | h; exact hE1 h; exact hE2 h))).trans HE.out
      have HEw := Lib.hid hEw
      clear hEw
      rcases split_pieces l with hemp | ⟨es, q, t, rfl, hes, hq⟩
      · have HEM := Lib.hid hemp
        clear hemp
        have HR := Read_end p A N cap a l w.heap.size s (needed - s) (needed - s) (.iface 97 (.pointer (some qe))) wr.drew (hI.out.left.bent (fun _ _ _ => rfl)) HEM.out HEw.out hE1 hpA (fun x hx => (HGL.out x hx).1)
        go_region_with (go_at_call 54; refine HR.mono ?_; rintro e w3 ⟨rfl, ho⟩)
        all_goals
          have M3 : Hid (Mv (fun k => k = p ∨ k = A) w w3) := Lib.hid (hI.out.mv.drew.trans ⟨ho.os, ho.tape, ho.output, Nat.le_of_eq ho.size.symm, fun k _ hk => ho.block k (fun e => hk (Or.inl e))⟩)
          clear ho
          go_wp2_with fail
          go_ret3
          refine ⟨M3.out, Or.inl ⟨?_, rfl⟩⟩
          have hf := hI.out.fills
          rw [fill_none (needed - s) (by omega) _ (by intro x hx; obtain ⟨y, hy, rfl⟩ := List.mem_map.1 hx; exact HEM.out y hy)] at hf
          unfold Frm.get
          rw [if_neg (by omega), hf]
          rfl
      · obtain ⟨n', hn'⟩ : ∃ n', n' = min (needed - s) q.xs.length := ⟨_, rfl⟩
        have hn1 : n' ≤ needed - s := by omega
        have hn2 : n' ≤ q.xs.length := by omega
        have hn3 : 0 < n' := by omega
        have HR := Read_any p A N cap a es q t w.heap.size s (needed - s) (needed - s) n' wr.drew (hI.out.left.bent (fun _ _ _ => rfl)) hes hq hn' (by omega) hpA (by omega) (by omega) (fun x hx => by have := HGL.out x hx; exact ⟨by omega, this.1, this.2.1⟩) (fun j hj => by
          have := hI.out.there (s + j) (by omega)
          rw [Nat.zero_add] at this
          exact this)
        have HES := Lib.hid hes
        have HN := Lib.hid hn'
        clear hes hn'
        have hwu : IntKind.u64.wrap ((s : Int) + (n' : Int)) = (s : Int) + (n' : Int) := by
          have : IntKind.u64.wrap ((s : Int) + (n' : Int)) = ((s : Int) + (n' : Int)) % 18446744073709551616 := by simp [IntKind.wrap, IntKind.bits, IntKind.signed]
          rw [this]; omega
        go_region_with (go_at_call 54; refine HR.mono ?_; rintro e w3 hrd; obtain ⟨rfl, hrd⟩ := hrd; have RD := Lib.hid hrd; clear hrd)
        all_goals
          clear hnil hmet HR
          go_wp2_with fail
          go_roundg (needed - (s + n'))
          case measure => omega
          case rel =>
            obtain ⟨hmv, ⟨o3, ho3, hps⟩, hlie, hcell, hfro, htyp⟩ := RD.out
            have hI2 := hI.out
            refine ⟨s + n', a + es.length, ⟨q.g, o3, q.c - n', q.xs.drop n'⟩ :: t, m ++ q.xs.take n', by simp, by omega, Lib.hid ⟨?_, hps, hI2.adv.trans (Adv.read es q t n' o3 _ ho3), ?_, ?_, ?_, ?_⟩⟩
            · exact hI2.mv.drew.transNew hmv (fun k hk h => by rcases h with h | h | h; exact Or.inl h; exact Or.inr h; omega)
            · have := hI2.len; simp; omega
            · intro i hi
              have hs := hI2.len
              rw [← List.append_assoc] at hi
              simp only [← List.append_assoc]
              by_cases hi2 : i < (cur ++ m).length
              · rw [List.getElem_append_left hi2]
                have := hI2.lie i hi2
                refine ⟨?_, this.2.1, by rw [hfro]; exact this.2.2⟩
                rw [hcell _ (Or.inl (by simp at hi2 ⊢; omega))]
                exact this.1
              · rw [List.getElem_append_right (by omega)]
                have hi3 : i - (cur ++ m).length < (q.xs.take n').length := by rw [List.length_append] at hi; omega
                have := hlie (i - (cur ++ m).length) hi3
                rw [show s + (i - (cur ++ m).length) = 0 + i by simp at hi2 ⊢; omega] at this
                exact this
            · intro j hj
              have := hI2.there j hj
              rw [Nat.zero_add] at this ⊢
              by_cases hj2 : j < s ∨ s + n' ≤ j
              · rw [hcell j hj2, hfro]
                exact this
              · have hj3 : j - s < (q.xs.take n').length := by simp; omega
                have h4 := (hlie (j - s) hj3).1
                rw [show s + (j - s) = j by omega] at h4
                rw [h4, hfro]
                exact ⟨rfl, this.2⟩
            · rw [hI2.fills, List.map_append, fill_empty _ (by omega) _ _ (by intro x hx; obtain ⟨y, hy, rfl⟩ := List.mem_map.1 hx; exact HES.out y hy), List.map_cons, fill_step _ n' (by omega) _ _ (by rw [HN.out])]
              rw [show needed - s - n' = needed - (s + n') by omega]
              simp only [List.map_cons]
              cases Frm.fill (needed - (s + n')) (q.xs.drop n' :: t.map (·.xs)) <;> simp

/-- wsGet, of bytes at a place of the buffer and of what comes. -/
theorem wsGet_any (p A N cap at_ : Nat) (ps : List Pc) (g o n c pos needed : Nat) (cur : List Nat) (qe : Addr) (w : World) (h0 : 0 < needed) (hp : pos + cur.length = n) (hc : n ≤ c) (hn : n < 1000000) (hm : needed < 1000) (hx : Lie w g (o + pos) cur)
    (hP : Ps w p A N cap at_ ps) (hpA : p ≠ A) (hg : ∀ x ∈ ps, x.g ≠ p ∧ x.g ≠ A ∧ x.g < w.heap.size) (hE : w.cell? ⟨1, 0, none⟩ = some (.iface 97 (.pointer (some qe)))) (hE1 : 1 ≠ p) (hE2 : 1 ≠ A) :
    Calls Tryd.prog 24 #[.iface 69 (.pointer (some ⟨p, 0, none⟩)), .slice (some ⟨g, o, none⟩) n c, .int .u64 pos, .int .u64 needed] w fun e w' => GetPost p A N cap g o n c pos needed cur ps (.iface 97 (.pointer (some qe))) w e w' := by
  by_cases h1 : needed ≤ cur.length
  · refine (wsGet_here p g o n c pos needed w h0 (by omega) hc hn).mono ?_
    rintro e w' ⟨rfl, rfl⟩
    refine ⟨Mv.refl _ _, Or.inr ⟨cur.take needed, g, o + pos, c - pos, at_, pos + needed, ps, ?_, rfl, by simp; omega, by simp; omega, by omega, fun i hi => ?_, hP, Adv.refl _, Or.inl ⟨rfl, rfl, h1⟩⟩⟩
    · unfold Frm.get; rw [if_pos h1]
    · have := hx i (by simp at hi; omega)
      simpa using this
  · exact wsGet_more p A N cap at_ ps g o n c pos needed cur qe w h0 hp (by omega) hc hn hm hx hP hpA hg hE hE1 hE2
end Go.Proofs.YtbldebfjgccadaaDoor
