/- The walk of impl.ParseDN. -/
import Derived.Test.YtdacmcbipnnneaaDoorDnL
import Derived.Laws.OwnMore
namespace Go.Proofs.YtdacmcbipnnneaaDoor
open Go.RowKit
set_option linter.unusedVariables false
set_option linter.unusedSimpArgs false

def cellsAt (xs : List At) : List Value := xs.flatMap fun a => [.string a.1, .string a.2]
theorem cellsAt_length (xs : List At) : (cellsAt xs).length = xs.length * 2 := by
  induction xs with
  | nil => rfl
  | cons x xs ih => simp [cellsAt] at ih ⊢; omega
theorem cellsAt_snoc (xs : List At) (a : At) : cellsAt (xs ++ [a]) = cellsAt xs ++ [.string a.1, .string a.2] := by simp [cellsAt]
theorem cellsAt_get (xs : List At) (i : Nat) (h : i < xs.length) : (cellsAt xs)[i * 2]? = some (.string xs[i].1) ∧ (cellsAt xs)[i * 2 + 1]? = some (.string xs[i].2) := by
  induction xs generalizing i with
  | nil => simp at h
  | cons x xs ih =>
    cases i with
    | zero => exact ⟨rfl, rfl⟩
    | succ i =>
      have := ih i (by simpa using h)
      have e : cellsAt (x :: xs) = .string x.1 :: .string x.2 :: cellsAt xs := rfl
      rw [e, show (i + 1) * 2 = i * 2 + 1 + 1 by omega]
      simpa using this

/-- A row of attributes of the call's own. -/
def RowIn (w : World) (lo hi : Nat) (v : Value) (xs : List At) : Prop := w.ownsRow lo 34 2 v xs.length (cellsAt xs) ∧ ∀ g, v.ownBlock = some g → g < hi

theorem own2_kp {X : Nat → TypeId → Prop} {B E S n : Nat} {w w' : World} {v : Value} {xs : List Value} (h : w.ownsRow B E S v n xs) (hk : Kp X w w') (hx : ∀ g, v.ownBlock = some g → ¬ X g E) : w'.ownsRow B E S v n xs := by
  obtain ⟨h1, h2 | ⟨g, cap, cur, hv, hbg, hc, hr⟩⟩ := h
  · exact ⟨h1, .inl h2⟩
  · exact ⟨h1, .inr ⟨g, cap, cur, hv, hbg, hk g cur E (hx g (by rw [hv]; rfl)) hc, hr⟩⟩
theorem RowIn.kp {X : Nat → TypeId → Prop} {w w' : World} {lo hi : Nat} {v : Value} {xs : List At} (h : RowIn w lo hi v xs) (hk : Kp X w w') (hx : ∀ k, k < hi → ¬ X k 34) : RowIn w' lo hi v xs := ⟨own2_kp h.1 hk (fun g e => hx g (h.2 g e)), h.2⟩
theorem RowIn.mono {w : World} {lo hi lo' hi' : Nat} {v : Value} {xs : List At} (h : RowIn w lo hi v xs) (h1 : lo' ≤ lo) (h2 : hi ≤ hi') : RowIn w lo' hi' v xs := ⟨own_mono h.1 h1, fun g e => by have := h.2 g e; omega⟩
theorem RowIn.attrs {w : World} {lo hi : Nat} {v : Value} {xs : List At} (h : RowIn w lo hi v xs) : ∃ A c, v = .slice A xs.length c ∧ xs.length ≤ c ∧ AttrsAt w A xs := by
  obtain ⟨⟨h1, ⟨rfl, hn⟩ | ⟨g, cap, cur, rfl, hB, hb, hn, hc, hs, ht⟩⟩, _⟩ := h
  · exact ⟨none, 0, by rw [hn], by omega, fun i hi => by omega⟩
  · refine ⟨_, _, rfl, hn, fun i hi => ⟨_, rfl, ?_, ?_⟩⟩
    · obtain ⟨e, _⟩ := cellsAt_get xs i hi
      rw [← ht, List.getElem?_take] at e
      have hadd : (⟨g, 0, none⟩ : Addr).add (i * 2) = ⟨g, i * 2, none⟩ := by unfold Addr.add; split <;> simp_all
      rw [hadd, Lib.cell_of_heap hb]
      split at e
      · simpa using e
      · cases e
    · obtain ⟨_, e⟩ := cellsAt_get xs i hi
      rw [← ht, List.getElem?_take] at e
      have hadd : (⟨g, 0, none⟩ : Addr).add (i * 2) = ⟨g, i * 2, none⟩ := by unfold Addr.add; split <;> simp_all
      rw [hadd, Lib.cell_of_heap hb]
      split at e
      · simpa using e
      · cases e

/-- Names that lie behind an address, each with its room. -/
def NamesC (w : World) (A : Option Addr) (xss : List (List At)) : Prop :=
  ∀ i (h : i < xss.length), ∃ ad A0 c0, A = some ad ∧ w.cell? (ad.add i) = some (.slice A0 xss[i].length c0) ∧ xss[i].length ≤ c0 ∧ AttrsAt w A0 xss[i]

def RowsIn (w : World) (lo : Nat) (vs : List Value) (xss : List (List At)) : Prop := vs.length = xss.length ∧ ∀ (i : Nat) v xs, vs[i]? = some v → xss[i]? = some xs → RowIn w lo w.heap.size v xs
theorem RowsIn.kp {X : Nat → TypeId → Prop} {w w' : World} {lo : Nat} {vs : List Value} {xss : List (List At)} (h : RowsIn w lo vs xss) (hk : Kp X w w') (hs : w.heap.size ≤ w'.heap.size) (hx : ∀ k, k < w.heap.size → ¬ X k 34) : RowsIn w' lo vs xss := ⟨h.1, fun i v xs a b => ((h.2 i v xs a b).kp hk hx).mono (Nat.le_refl _) hs⟩
theorem RowsIn.snoc {w : World} {lo : Nat} {p : Value} {ps : List Value} {xs : List (List At)} {a : List At} (h : RowsIn w lo ps xs) (hp : RowIn w lo w.heap.size p a) : RowsIn w lo (ps ++ [p]) (xs ++ [a]) := by
  refine ⟨by simp [h.1], fun i q b e1 e2 => ?_⟩
  by_cases hi : i < ps.length
  · rw [List.getElem?_append_left hi] at e1
    rw [List.getElem?_append_left (by have := h.1; omega)] at e2
    exact h.2 i q b e1 e2
  · have h3 := (List.getElem?_eq_some_iff.1 e1).1
    simp at h3
    obtain rfl : i = ps.length := by omega
    rw [List.getElem?_append_right (Nat.le_refl _)] at e1
    rw [List.getElem?_append_right (by have := h.1; omega)] at e2
    have := h.1
    simp [this] at e1 e2
    subst e1; subst e2
    exact hp

theorem own_names {w : World} {B n : Nat} {v : Value} {vs : List Value} {xss : List (List At)} (h : w.ownsRow B 31 1 v n vs) (hn : n = xss.length) (hr : RowsIn w B vs xss) : ∃ A c, v = .slice A xss.length c ∧ xss.length ≤ c ∧ NamesC w A xss := by
  obtain ⟨h1, ⟨rfl, hn0⟩ | ⟨g, cap, cur, rfl, hB, hb, hnc, hc, hs, ht⟩⟩ := h
  · exact ⟨none, 0, by rw [← hn, hn0], by omega, fun i hi => by omega⟩
  · refine ⟨_, _, by rw [hn], by omega, fun i hi => ?_⟩
    have hv : i < vs.length := by have := hr.1; omega
    obtain ⟨A0, c0, e, hle, hA⟩ := (hr.2 i vs[i] xss[i] (List.getElem?_eq_getElem hv) (List.getElem?_eq_getElem hi)).attrs
    refine ⟨_, A0, c0, rfl, ?_, hle, hA⟩
    have e2 : vs[i]? = some (.slice A0 xss[i].length c0) := by rw [List.getElem?_eq_getElem hv, e]
    rw [← ht, List.getElem?_take] at e2
    have hadd : (⟨g, 0, none⟩ : Addr).add i = ⟨g, i, none⟩ := by unfold Addr.add; split <;> simp_all
    rw [hadd, Lib.cell_of_heap hb]
    split at e2
    · simpa using e2
    · cases e2

theorem row_one {w : World} {lo hi : Nat} {v : Value} {xs : List At} (h : RowIn w lo hi v xs) : v.oneCell' = true := by
  obtain ⟨A, c, rfl, _⟩ := h.attrs
  rfl

theorem info34 : (Tryd.prog.info? 34).map (fun i => (i.zero, i.size, i.bytes)) = some (some (.agg #[.string ⟨#[]⟩, .string ⟨#[]⟩]), 2, 32) := by kernel_rfl
theorem info31 : (Tryd.prog.info? 31).map (fun i => (i.zero, i.size, i.bytes)) = some (some (.slice none 0 0), 1, 24) := by kernel_rfl

set_option maxHeartbeats 8000000 in
set_option maxRecDepth 100000 in
theorem implParse_any (s : ByteArray) (RR : List (List At)) (hs : s.size ≤ 100000) (hp : Parses s RR 0 PS.start) (hl : RR.length ≤ 1000000) (hm : ∀ xs ∈ RR, xs.length ≤ 1000000) (w : World) :
    Calls Tryd.prog 11 #[.string s] w fun e w' => ∃ A c, e = .returned (.tuple #[.slice A RR.length c, .bool true]) ∧ RR.length ≤ c ∧ NamesC w' A RR ∧ Below w.heap.size w w' := by
  obtain ⟨i0, hi0, hz0, hz1, hz2⟩ := info_parts info34
  obtain ⟨j0, hj0, jz0, jz1, jz2⟩ := info_parts info31
  have HP := Lib.hid hp
  have HM := Lib.hid hm
  clear hp hm
  go_enter Tryd.func11, Tryd.ntmps11
  go_wp2_with fail
  refine (parse_any s RR hs HP.out w).mono ?_
  rintro e wp ⟨rfl, hd, hb⟩
  have BW := Lib.hid hb
  obtain ⟨hB, v, bs, hv, ho, hr⟩ := hd
  obtain ⟨AD, cD, rfl, hps⟩ := PtrsAt.of_own ho
  have lb : bs.length = RR.length := hr.1
  rw [lb] at hv
  have cDn : wp.cell? ⟨w.heap.size, 0, none⟩ = some (.slice AD RR.length cD) := cell_one hv
  have HPS := Lib.hid hps
  have HR := Lib.hid hr
  have LB := Lib.hid lb
  have lD : w.heap.size < wp.heap.size := Lib.lt_of_heap hv
  clear hb ho hr hps hv lb hB
  go_wp2_with fail
  go_loopg [2, 6] RR.length (fun gk u i w' => ∃ k uv vs, uv = u ∧ i = .int .i64 (k : Nat) ∧ Hid (gk = RR.length - k) ∧ k ≤ RR.length ∧ Hid (w'.ownsRow wp.heap.size 31 1 uv k vs) ∧ Hid (RowsIn w' wp.heap.size vs (RR.take k)) ∧ Hid (Below wp.heap.size wp w'))
  case atStart => exact ⟨0, _, [], rfl, rfl, rfl, Nat.zero_le _, World.ownsRow_nil _ _ _ _, ⟨rfl, fun i v xs e => by simp at e⟩, Below.refl _ _⟩
  case round =>
    obtain ⟨k, uv, vs, rfl, rfl, hm, hk, ho, hr, hw⟩ := hrel
    have c0 : wr.cell? ⟨w.heap.size, 0, none⟩ = some (.slice AD RR.length cD) := by rw [hw.out.cell (p := ⟨w.heap.size, 0, none⟩) lD]; exact cDn
    by_cases hlt : k < RR.length
    · have h1 : k < bs.length := by have := LB.out; omega
      obtain ⟨ad, rfl, s0⟩ := HPS.out k bs[k] (List.getElem?_eq_getElem h1)
      obtain ⟨_, v2, ps, r1, r2, r3⟩ := HR.out.2 k bs[k] RR[k] (List.getElem?_eq_getElem h1) (List.getElem?_eq_getElem hlt)
      have xl := HM.out RR[k] (List.getElem_mem hlt)
      have TK := Lib.hid (List.take_succ_eq_append_getElem hlt)
      generalize RR[k] = xs at *
      generalize bs[k] = b at *
      obtain ⟨A2, c2, rfl, qps⟩ := PtrsAt.of_own r2
      have l2 : ps.length = xs.length := r3.1
      rw [l2] at r1
      have QPS := Lib.hid qps
      have R3 := Lib.hid r3
      have lb2 : b < wp.heap.size := Lib.lt_of_heap r1
      have e1 : wp.cell? ⟨b, 0, none⟩ = some (.slice A2 xs.length c2) := cell_one r1
      have lad : ad.block < wp.heap.size := by have := World.block_lt_of_cell? wp _ s0; rwa [add_block] at this
      have L2 := Lib.hid l2
      clear h1 r1 r2 r3 qps l2
      have OW := Lib.hid ho.out
      go_wp2_with fail
      obtain ⟨wo, rfl⟩ : ∃ wo : World, wo = wr := ⟨_, rfl⟩
      go_loopg [7, 8] xs.length (fun gk l j w' => ∃ i lv, lv = l ∧ j = .int .i64 (i : Nat) ∧ Hid (gk = xs.length - i) ∧ i ≤ xs.length ∧ Hid (w'.ownsRow wo.heap.size 34 2 lv i (cellsAt (xs.take i))) ∧ Hid (Below wo.heap.size wo w'))
      case atStart => exact ⟨0, _, rfl, rfl, rfl, Nat.zero_le _, World.ownsRow_nil _ _ _ _, Below.refl _ _⟩
      case round =>
        obtain ⟨i, lv, rfl, rfl, hm2, hi, ho2, hw2⟩ := hrel
        have BB : Hid (Below wp.heap.size wp wr) := hw.out.trans (hw2.out.mono hw.out.size)
        have d0 : wr.cell? ⟨w.heap.size, 0, none⟩ = some (.slice (some ad) RR.length cD) := by rw [BB.out.cell (p := ⟨w.heap.size, 0, none⟩) lD]; exact cDn
        have d1 : wr.cell? (ad.add k) = some (ptr b) := by rw [BB.out.cell (World.block_lt_of_cell? wp _ s0)]; exact s0
        have d2 : wr.cell? ⟨b, 0, none⟩ = some (.slice A2 xs.length c2) := by rw [BB.out.cell (p := ⟨b, 0, none⟩) lb2]; exact e1
        have so : wo.heap.size ≤ wr.heap.size := hw2.out.size
        by_cases hlt2 : i < xs.length
        · have h2 : i < ps.length := by have := L2.out; omega
          obtain ⟨ad2, rfl, t0⟩ := QPS.out i ps[i] (List.getElem?_eq_getElem h2)
          have t1 := R3.out.2 i ps[i] xs[i] (List.getElem?_eq_getElem h2) (List.getElem?_eq_getElem hlt2)
          have T2 := Lib.hid (List.take_succ_eq_append_getElem hlt2)
          generalize xs[i] = a at *
          generalize ps[i] = q at *
          have lad2' : ad2.block < wp.heap.size := by have := World.block_lt_of_cell? wp _ t0; rwa [add_block] at this
          have d3 : wr.cell? (ad2.add i) = some (ptr q) := by rw [BB.out.cell (World.block_lt_of_cell? wp _ t0)]; exact t0
          have lq : q < wp.heap.size := Lib.lt_of_heap t1.2
          have d4 : wr.cell? ⟨q, 0, none⟩ = some (.string a.1) := by rw [BB.out.cell (p := ⟨q, 0, none⟩) lq, Lib.cell_of_heap t1.2]; rfl
          have d5 : wr.cell? ⟨q, 1, none⟩ = some (.string a.2) := by rw [BB.out.cell (p := ⟨q, 1, none⟩) lq, Lib.cell_of_heap t1.2]; rfl
          clear t0 t1 h2
          go_upto_region 11 with fail
          have n0 := World.new_ne wr _ d0
          have n1 := World.new_ne wr _ d1
          have n2 := World.new_ne wr _ d2
          have n3 := World.new_ne wr _ d3
          have n4 := World.new_ne wr _ d4
          have n5 := World.new_ne wr _ d5
          have NW := Lib.hid (heap_alloc_new wr (.cells #[.string a.1, .string a.2] 34))
          have lk0 : (0 : Int) ≤ (k : Int) := Int.natCast_nonneg _
          have lk1 : (k : Int) < (RR.length : Int) := by omega
          have li0 : (0 : Int) ≤ (i : Int) := Int.natCast_nonneg _
          have li1 : (i : Int) < (xs.length : Int) := by omega
          have F0 := Lib.hid s0
          have F3 := Lib.hid d3
          have lad2 : ad2.block < wp.heap.size := lad2'
          have hpr : wp.heap.size ≤ wr.heap.size := BB.out.size
          go_region_held3 (fun w' => w'.cell? ⟨w.heap.size, 0, none⟩ = some (.slice (some ad) RR.length cD) ∧ w'.cell? (ad.add k) = some (ptr b) ∧ w'.cell? ⟨b, 0, none⟩ = some (.slice (some ad2) xs.length c2) ∧ w'.cell? (ad2.add i) = some (ptr q) ∧ w'.cell? ⟨q, 0, none⟩ = some (.string a.1) ∧ w'.cell? ⟨q, 1, none⟩ = some (.string a.2))
            (first
              | go_keep
              | (go_split_ands
                 refine ⟨?_, ?_, ?_, ?_, ?_, ?_⟩
                 · (rw [hgrow.cell_far _ (by simp <;> omega) (far lD)]; assumption)
                 · (rw [hgrow.cell_far _ (by simp <;> rw [add_block] <;> omega) (by rw [add_block]; exact far lad)]; assumption)
                 · (rw [hgrow.cell_far _ (by simp <;> omega) (far lb2)]; assumption)
                 · (rw [hgrow.cell_far _ (by simp <;> rw [add_block] <;> omega) (by rw [add_block]; exact far lad2)]; assumption)
                 · (rw [hgrow.cell_far _ (by simp <;> omega) (far lq)]; assumption)
                 · (rw [hgrow.cell_far _ (by simp <;> omega) (far lq)]; assumption)))
            ((refine step_append_lies _ (by rfl) _ _ _ (by rfl) wo.heap.size 34 i0 _ 2 32 Tryd.underlying31 hi0 hz0 hz1 hz2 rfl (by omega) lv i (cellsAt (xs.take i)) (by rfl) ((ho2.out.alloc _).drew) ⟨wr.heap.size, 0, none⟩ 1 1 [.string a.1, .string a.2] (by rfl) (by rfl) (World.news_of_block (cs := #[.string a.1, .string a.2]) (t := 34) (fr := (0, 0)) NW.out) (by simp [Value.oneCell']) (by omega) (by unfold maxLen; omega) (by omega) (by simp <;> omega) (wr.heap.size + 1) (by simp) ?_; intro gg cap w3 hown hgrow hat hlt3; have OW3 := Lib.hid hown; have BW3 : Hid (Below wo.heap.size wo w3) := (hw2.out.alloc so _).trans (below_drew_l (grown_below' hgrow (fun k e => (World.ownsRow.lt ho2.out k e).1) (by simp <;> omega))); have far : ∀ {z : Nat}, z < wp.heap.size → some z ≠ lv.ownBlock := fun {z} hz e => by (have := (World.ownsRow.lt ho2.out z e.symm).1; have := hw.out.size; omega)))
          go_wp2_with fail
          go_roundg (xs.length - (i + 1))
          case measure => have := hm2.out; omega
          case rel => exact ⟨i + 1, _, rfl, rfl, rfl, by omega, by rw [T2.out, cellsAt_snoc]; exact OW3.out, BW3.out⟩
        · obtain rfl : i = xs.length := by omega
          have RW : Hid (RowIn wr wp.heap.size wr.heap.size lv xs) := ⟨own_mono (by have := ho2.out; rw [List.take_length] at this; exact this) hw.out.size, fun g e => (World.ownsRow.lt ho2.out g e).2⟩
          obtain ⟨A9, c9, rfl, _, _⟩ := RW.out.attrs
          have O1 := own2_kp (X := fun _ _ => False) OW.out (Kp.of_below hw2.out) (fun _ _ e => e)
          have OO := Lib.hid O1
          have HR2 := Lib.hid (hr.out.kp (X := fun _ _ => False) (Kp.of_below hw2.out) so (fun _ _ e => e))
          have hsz : wp.heap.size ≤ wr.heap.size := BB.out.size
          have NW := Lib.hid (heap_alloc_new wr (.cells #[.slice A9 xs.length c9] 31))
          clear O1
          have lvk : vs.length = k := by have := hr.out.1; rw [List.length_take] at this; omega
          have LVK := Lib.hid lvk
          clear lvk
          go_wp2_with (at_builtin; go_loud (refine wpList_append_lies _ rfl _ _ _ rfl wp.heap.size 31 j0 _ 1 24 Tryd.underlying22 hj0 jz0 jz1 jz2 rfl (by omega) uv k vs rfl (OO.out.alloc _) ⟨wr.heap.size, 0, none⟩ 1 1 [.slice A9 xs.length c9] rfl rfl (World.news_of_block (cs := #[.slice A9 xs.length c9]) (t := 31) (fr := (0, 0)) NW.out) (by simp [Value.oneCell']) (by omega) (by unfold maxLen; omega) (by omega) (by simp <;> omega) (wr.heap.size + 1) (by simp) ?_; intro gg cap w3 hown hgrow hat hlt3; have OW3 := Lib.hid hown; have BW3 : Hid (Below wp.heap.size wp w3) := (BB.out.alloc hsz _).trans (grown_below' hgrow (fun k e => (World.ownsRow.lt OO.out k e).1) (by simp <;> omega)); have KP3 : Hid (Kp (fun _ t => t = 31) wr w3) := (Kp.alloc _ wr _).trans (fun kk cs t hx hh => keep_block hgrow (own_block (OO.out.alloc _) hh hx) (Lib.lt_of_heap hh) hh); have SZ3 : Hid (wr.heap.size ≤ w3.heap.size) := Nat.le_trans (by simp) hgrow.size; clear hown hgrow hat))
          go_roundg (RR.length - (k + 1))
          case measure => have := hm.out; omega
          case rel => exact ⟨k + 1, _, vs ++ [Value.slice A9 xs.length c9], rfl, rfl, rfl, by omega, OW3.out, by rw [TK.out]; exact (HR2.out.kp KP3.out SZ3.out (fun _ _ => by decide)).snoc ((RW.out.kp KP3.out (fun _ _ => by decide)).mono (Nat.le_refl _) SZ3.out), BW3.out⟩
    · go_wp2_with fail
      go_ret2
      obtain rfl : k = RR.length := by omega
      have := hr.out
      rw [List.take_length] at this
      obtain ⟨A, c, rfl, hc, hn⟩ := own_names ho.out rfl this
      exact ⟨A, c, rfl, hc, hn, BW.out.trans (hw.out.mono BW.out.size)⟩
end Go.Proofs.YtdacmcbipnnneaaDoor
