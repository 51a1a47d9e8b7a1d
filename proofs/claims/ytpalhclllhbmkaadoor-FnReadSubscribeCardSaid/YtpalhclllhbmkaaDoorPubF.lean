/- The subject of an MQTT topic: the walk of the conversion. -/
import Derived.Test.YtpalhclllhbmkaaDoorPubE
namespace Go.Proofs.YtpalhclllhbmkaaDoor
open Go.RowKit

/-- How long what is made is. -/
def made (i : Nat) : Option (List Int) → Nat
  | none => i
  | some xs => xs.length
/-- A copy is made of one byte at least, and of at most two a byte. -/
def Fair (i : Nat) : Option (List Int) → Prop
  | none => True
  | some xs => 1 ≤ i ∧ 1 ≤ xs.length ∧ xs.length ≤ 2 * i

/-- The bytes that a topic may have here: no white space, no point, no delete; wildcards where they are let. -/
def Plain1 (wc : Bool) (c : Nat) : Prop := c < 128 ∧ 0 < c ∧ c ≠ 32 ∧ c ≠ 9 ∧ c ≠ 10 ∧ c ≠ 13 ∧ c ≠ 12 ∧ c ≠ 127 ∧ c ≠ 46 ∧ (wc = false → c ≠ 43 ∧ c ≠ 35)

/-- What the conversion hands back: a slice of bytes that can be read. -/
def Slc (w : World) (v : Value) : Prop := ∃ (h o c : Nat) (xs : List Int), v = .slice (some ⟨h, o, none⟩) xs.length c ∧ (∀ i, i < xs.length → w.cell? ⟨h, o + i, none⟩ = some (.int .u8 (xs.getD i 0)))

/-- What an append to the copy, and the store behind it, leave. -/
theorem app_step {B g a n cap h cc gg c3 m : Nat} {xs ys : List Int} {wr X W3 : World} (hC : Cv wr B g a n cap (some xs))
    (k2 : wr.heap[B + 2]? = some (.cells #[.slice (some ⟨h, 0, none⟩) xs.length cc] 33 (0, 0))) (hO : wr.ownsRow (B + 3) 5 1 (.slice (some ⟨h, 0, none⟩) xs.length cc) xs.length (cellsOf xs))
    (hX : Below wr.heap.size wr X) (hm : ys.length = m)
    (hown : W3.ownsRow (B + 3) 5 1 (.slice (some ⟨gg, 0, none⟩) (xs.length + m) c3) (xs.length + m) (cellsOf xs ++ cellsOf ys)) (hgrow : X.grownBy W3 (Value.slice (some ⟨h, 0, none⟩) xs.length cc).ownBlock) :
    W3.cell? ⟨B + 1 + 1, 0, none⟩ = some (.slice (some ⟨h, 0, none⟩) xs.length cc) ∧ W3.frozen? ⟨B + 1 + 1, 0, none⟩ = false ∧
      Cv (W3.setCell ⟨B + 1 + 1, 0, none⟩ (.slice (some ⟨gg, 0, none⟩) (xs.length + m) c3)) B g a n cap (some (xs ++ ys)) ∧ Below B wr (W3.setCell ⟨B + 1 + 1, 0, none⟩ (.slice (some ⟨gg, 0, none⟩) (xs.length + m) c3)) ∧
      (W3.setCell ⟨B + 1 + 1, 0, none⟩ (.slice (some ⟨gg, 0, none⟩) (xs.length + m) c3)).ownsRow (B + 3) 5 1 (.slice (some ⟨gg, 0, none⟩) (xs ++ ys).length c3) (xs ++ ys).length (cellsOf (xs ++ ys)) := by
  have hh := (hO.lt h rfl).1
  have hg3 := (hown.lt gg rfl).1
  have hlt := hC.lt
  have hs := hX.size
  have ho5 : (W3.setCell ⟨B + 1 + 1, 0, none⟩ (.slice (some ⟨gg, 0, none⟩) (xs.length + m) c3)).ownsRow (B + 3) 5 1 (.slice (some ⟨gg, 0, none⟩) (xs ++ ys).length c3) (xs ++ ys).length (cellsOf (xs ++ ys)) := by
    have el : (xs ++ ys).length = xs.length + m := by rw [List.length_append, hm]
    have ec : cellsOf (xs ++ ys) = cellsOf xs ++ cellsOf ys := by simp [cellsOf]
    rw [el, ec]
    exact hown.kept (grown_setCell W3 (B + 2) 0 _) (own_ne (by omega))
  have go : ∀ k, k < wr.heap.size → k ≠ h → W3.heap[k]? = wr.heap[k]? := fun k h1 h2 => (hgrow.block k (by omega) (by simp [Value.ownBlock]; exact h2)).trans (hX.block k h1)
  have e0 := go B (by omega) (by omega)
  have e1 := go (B + 1) (by omega) (by omega)
  have e2 := go (B + 2) (by omega) (by omega)
  rw [hC.mt] at e0
  rw [hC.cp] at e1
  rw [k2] at e2
  refine ⟨by rw [Lib.cell_of_heap e2]; rfl, Lib.frozen_of_heap e2 0, ⟨?_, ?_, (fun h => by cases h), fun zs hz => ?_⟩, ?_, ho5⟩
  · rw [set_ne _ _ _ (by omega)]; exact e0
  · rw [set_ne _ _ _ (by omega)]; exact e1
  · obtain rfl : zs = xs ++ ys := (Option.some.inj hz).symm
    refine ⟨gg, c3, ?_, ho5⟩
    have el : (xs ++ ys).length = xs.length + m := by rw [List.length_append, hm]
    rw [el]
    exact Lib.heap_setCell_same (i := 0) e2 _
  · refine Below.setCell (p := ⟨B + 1 + 1, 0, none⟩) ?_ (by simp; omega) _
    refine (hX.mono (by omega)).trans (grown_below hgrow (b := h) (by omega) (by omega))

theorem own_cap {w : World} {B h n c : Nat} {l : List Value} (hO : w.ownsRow B 5 1 (.slice (some ⟨h, 0, none⟩) n c) n l) : n ≤ c := by
  rcases hO.2 with ⟨hv, _⟩ | ⟨g, cap, cur, hv, _, _, hnc, _⟩
  · cases hv
  · cases hv; exact hnc
theorem own_cell {w : World} {B h c : Nat} {xs : List Int} (hO : w.ownsRow B 5 1 (.slice (some ⟨h, 0, none⟩) xs.length c) xs.length (cellsOf xs)) (k : Nat) (hk : k < xs.length) : w.cell? ⟨h, 0 + k, none⟩ = some (.int .u8 (xs.getD k 0)) := by
  rw [Nat.zero_add, hO.cellAt k (by omega)]
  simp [cellsOf, List.getElem?_map, List.getElem?_eq_getElem hk, List.getD]

set_option maxHeartbeats 8000000 in
set_option maxRecDepth 100000 in
theorem Conv_any (g a n cap : Nat) (f : Nat → Nat) (wc : Bool) (hn : n ≤ 65535) (hn0 : 0 < n) (hcap : n ≤ cap) (w : World) (hA : Asc w g f a (a + n)) (hP : ∀ i, a ≤ i → i < a + n → Plain1 wc (f i)) :
    Calls Tryd.prog 49 #[.slice (some ⟨g, a, none⟩) n cap, .bool wc] w fun e w' => ∃ v, e = .returned (.tuple #[v, .nilIface]) ∧ Slc w' v ∧ Below w.heap.size w w' := by
  have hg : g < w.heap.size := World.block_lt_of_cell? w _ (hA a (by omega) (by omega)).2
  have HA := Lib.hid hA
  have HP := Lib.hid hP
  clear hA hP
  obtain ⟨i0, hi0, hz0, hz1, hz2⟩ := info_parts info5'
  have HC0 : Hid (Cv (((w.alloc (.cells #[.slice (some ⟨g, a, none⟩) n cap] 33)).alloc (.cells #[.bool false] 4)).alloc (.cells #[.slice (some ⟨g, a, none⟩) n cap] 33)) w.heap.size g a n cap none) := by
    refine ⟨?_, ?_, fun _ => ?_, fun xs h => by cases h⟩
    · rw [Below.heap_alloc _ _ _ (by simp; omega), Below.heap_alloc _ _ _ (by simp)]; exact heap_alloc_new w _
    · rw [Below.heap_alloc _ _ _ (by simp)]
      have := heap_alloc_new (w.alloc (.cells #[.slice (some ⟨g, a, none⟩) n cap] 33)) (.cells #[.bool false] 4)
      simpa using this
    · have := heap_alloc_new ((w.alloc (.cells #[.slice (some ⟨g, a, none⟩) n cap] 33)).alloc (.cells #[.bool false] 4)) (.cells #[.slice (some ⟨g, a, none⟩) n cap] 33)
      simpa using this
  have HB0 : Hid (Below w.heap.size w (((w.alloc (.cells #[.slice (some ⟨g, a, none⟩) n cap] 33)).alloc (.cells #[.bool false] 4)).alloc (.cells #[.slice (some ⟨g, a, none⟩) n cap] 33))) :=
    (((Below.refl _ _).alloc (Nat.le_refl _) _).alloc (by simp) _).alloc (by simp; omega) _
  have HG := Lib.hid hg
  clear hg
  go_enter Tryd.func49, Tryd.ntmps49
  go_wp2_with fail
  obtain ⟨B, hB⟩ : ∃ B, w.heap.size = B := ⟨_, rfl⟩
  simp only [hB] at HC0 HB0 HG ⊢
  have HBE := Lib.hid hB
  clear hB
  go_loopg [7, 11] n (fun gk vj vi w' => ∃ (i j : Nat) (l : Option (List Int)), vi = .int .i64 i ∧ vj = .int .i64 j ∧ i + gk = n ∧ j ≤ 131070 ∧ Hid (j = made i l) ∧ Hid (Cv w' B g a n cap l) ∧ Hid (Fair i l) ∧ Hid (Below B w w'))
  case atStart => exact ⟨0, 0, none, rfl, rfl, by omega, by omega, rfl, HC0, trivial, HB0⟩
  case round =>
    clear HC0 HB0
    obtain ⟨i, j, l, rfl, rfl, hi, hj, hJ, hC, hF, hB⟩ := hrel
    have m0 : wr.cell? ⟨B, 0, none⟩ = some (.slice (some ⟨g, a, none⟩) n cap) := by rw [Lib.cell_of_heap hC.out.mt]; rfl
    have p0 : wr.cell? ⟨B + 1, 0, none⟩ = some (.bool l.isSome) := by rw [Lib.cell_of_heap hC.out.cp]; rfl
    have hlt := hC.out.lt
    have hAr : Hid (Asc wr g f a (a + n)) := fun j h1 h2 => ⟨(HA.out j h1 h2).1, by rw [hB.out.cell (p := ⟨g, j, none⟩) HG.out]; exact (HA.out j h1 h2).2⟩
    by_cases h0 : gk = 0
    · subst h0
      obtain rfl : i = n := by omega
      cases l with
      | none =>
        simp only [Option.isSome] at p0
        have hji : j = i := hJ.out
        subst hji
        have r0 : wr.cell? ⟨B + 1 + 1, 0, none⟩ = some (.slice (some ⟨g, a, none⟩) j cap) := by rw [Lib.cell_of_heap (hC.out.none rfl)]; rfl
        have jc : (j : Int) ≤ (cap : Int) := by omega
        go_wp2_with fail
        go_ret2
        refine ⟨_, rfl, ⟨g, a, cap, stretch f a j, by rw [stretch_len]; rfl, fun k hk => ?_⟩, ?_⟩
        · rw [stretch_len] at hk
          rw [stretch_getD f a j k hk]
          exact (hAr.out (a + k) (by omega) (by omega)).2
        · rw [HBE.out]; exact hB.out
      | some xs =>
        simp only [Option.isSome] at p0
        have hF3 : 1 ≤ i ∧ 1 ≤ xs.length ∧ xs.length ≤ 2 * i := hF.out
        obtain ⟨hq1, hq2, hq3⟩ := hF3
        obtain ⟨x, hx⟩ : ∃ x, xs.getD (j - 1) 0 = x := ⟨_, rfl⟩
        have hjl : j = xs.length := hJ.out
        obtain ⟨h, cc, k2, hO⟩ := hC.out.some xs rfl
        have r0 : wr.cell? ⟨B + 1 + 1, 0, none⟩ = some (.slice (some ⟨h, 0, none⟩) xs.length cc) := by rw [Lib.cell_of_heap k2]; rfl
        have x0 : wr.cell? ⟨h, j - 1, none⟩ = some (.int .u8 x) := by
          have := hO.cellAt (j - 1) (by omega)
          rw [this, ← hx]
          have hlt' : j - 1 < xs.length := by omega
          simp [cellsOf, List.getElem?_map, List.getElem?_eq_getElem hlt', List.getD]
        have j1 : 1 ≤ j := by omega
        have j2 : j ≤ xs.length := by omega
        have hcc : xs.length ≤ cc := own_cap hO
        have jc : (j : Int) ≤ (cc : Int) := by omega
        have HJ := Lib.hid hjl
        clear hx hjl
        by_cases ex : x = 46
        · have tx : (x == 46) = true := by simp; omega
          clear ex
          have HCS := hC
          have HO := Lib.hid hO
          have K2 := Lib.hid k2
          clear hO k2
          have gl : g < wr.heap.size := by have := HG.out; have := HCS.out.lt; omega
          have wl : B + 2 < wr.heap.size := HCS.out.lt
          go_wp2_with (at_builtin; refine wpList_append_lies _ rfl _ _ 33 rfl (B + 3) 5 i0 (.int .u8 0) 1 1 under33 hi0 hz0 hz1 hz2 rfl (by decide) (.slice (some ⟨h, 0, none⟩) xs.length cc) xs.length (cellsOf xs) rfl (HO.out.alloc _) ⟨wr.heap.size, 0, none⟩ 1 1 (cellsOf [(47 : Int)]) rfl rfl (World.news_of_block (cs := #[.int .u8 47]) (t := 5) (fr := (0, 0)) (heap_alloc_new wr _)) (cellsOf_one _) (by omega) (by unfold maxLen; omega) (by omega) (by simp; omega) (wr.heap.size + 1) (by simp) ?_; intro gg cap3 W3 hown3 hgrow3 hat3 hlt3; obtain ⟨z1, z2, z3, z4, z5⟩ := app_step HCS.out K2.out HO.out ((Below.refl _ _).alloc (Nat.le_refl _) _) (ys := [(47 : Int)]) rfl hown3 hgrow3; have Z3 := Lib.hid z3; have Z4 := Lib.hid z4; have Z5 := Lib.hid z5; have cq3 := own_cap hown3; clear z3 z4 z5 hown3 hgrow3 hat3 hlt3)
          go_ret2
          refine ⟨_, rfl, ⟨gg, 0, cap3, xs ++ [(47 : Int)], by rw [HJ.out]; simp, fun k hk => ?_⟩, ?_⟩
          · exact own_cell Z5.out k hk
          · rw [HBE.out]; exact hB.out.trans Z4.out
        · have tx : (x == 46) = false := by simp; omega
          clear ex
          have HO := Lib.hid hO
          clear hO k2
          go_wp2_with fail
          go_ret2
          refine ⟨_, rfl, ⟨h, 0, cc, xs, by rw [HJ.out]; rfl, fun k hk => ?_⟩, ?_⟩
          · exact own_cell HO.out k hk
          · rw [HBE.out]; exact hB.out
    · obtain ⟨c, hc⟩ : ∃ c, f (a + i) = c := ⟨_, rfl⟩
      have b0 : wr.cell? ⟨g, a + i, none⟩ = some (.int .u8 c) := by rw [← hc]; exact (hAr.out (a + i) (by omega) (by omega)).2
      have pl : Plain1 wc c := by rw [← hc]; exact HP.out (a + i) (by omega) (by omega)
      have HCI := Lib.hid hc
      clear hc
      obtain ⟨q1, q2, q3, q4, q5, q6, q7, q8, q9, q10⟩ := pl
      have Q10 := Lib.hid q10
      clear q10
      by_cases c47 : c = 47
      · skip
        obtain rfl : c = 47 := by omega
        replace b0 : wr.cell? ⟨g, a + i, none⟩ = some (.int .u8 47) := b0
        cases l with
        | none =>
          simp only [Option.isSome] at p0
          by_cases ei : i = 0
          · obtain rfl : i = 0 := ei
            replace b0 : wr.cell? ⟨g, a, none⟩ = some (.int .u8 47) := b0
            go_wp2_with fail
            refine (makeCopy_any B g a n cap 0 f hn hcap (by omega) wr hC.out hAr.out HG.out).mono ?_
            rintro e w1 ⟨rfl, hcv, hbl⟩
            have HX0 : Hid ((stretch f a 0).length = 0) := stretch_len _ _ _
            generalize stretch f a 0 = xs at hcv HX0
            have HCS := Lib.hid hcv
            have HBW : Hid (Below B w w1) := hB.out.trans hbl
            have HJ : Hid (j = xs.length) := by have h1 : j = 0 := hJ.out; have h2 := HX0.out; exact (by omega : j = xs.length)
            have HX : Hid (xs.length ≤ 2 * 0) := by have h2 := HX0.out; exact (by omega : xs.length ≤ 2 * 0)
            have m1 : w1.cell? ⟨B, 0, none⟩ = some (.slice (some ⟨g, a, none⟩) n cap) := by rw [Lib.cell_of_heap hcv.mt]; rfl
            have b1 : w1.cell? ⟨g, a, none⟩ = some (.int .u8 47) := by rw [hbl.cell (p := ⟨g, a, none⟩) HG.out]; exact b0
            clear m0 p0 b0 hcv hbl hC hB hAr

            obtain ⟨h, cc, k2, hO⟩ := HCS.out.some xs rfl
            have r0 : w1.cell? ⟨B + 1 + 1, 0, none⟩ = some (.slice (some ⟨h, 0, none⟩) xs.length cc) := by rw [Lib.cell_of_heap k2]; rfl
            have HO := Lib.hid hO
            have K2 := Lib.hid k2
            clear hO k2
            have hx2 : xs.length + 2 ≤ 131072 := by have := HX.out; omega
            have gl : g < w1.heap.size := by have := HG.out; have := HCS.out.lt; omega
            have wl : B + 2 < w1.heap.size := HCS.out.lt
            go_wp2_with (at_builtin; refine wpList_append_lies _ rfl _ _ 33 rfl (B + 3) 5 i0 (.int .u8 0) 1 1 under33 hi0 hz0 hz1 hz2 rfl (by decide) (.slice (some ⟨h, 0, none⟩) xs.length cc) xs.length (cellsOf xs) rfl (HO.out.alloc _) ⟨w1.heap.size, 0, none⟩ 2 2 (cellsOf [(47 : Int), (46 : Int)]) rfl rfl (World.news_of_block (cs := #[.int .u8 47, .int .u8 46]) (t := 5) (fr := (0, 0)) (heap_alloc_new w1 _)) (cellsOf_one _) (by omega) (by unfold maxLen; omega) (by omega) (by simp; omega) (w1.heap.size + 1) (by simp) ?_; intro gg cap3 W3 hown3 hgrow3 hat3 hlt3; obtain ⟨z1, z2, z3, z4, z5⟩ := app_step HCS.out K2.out HO.out ((Below.refl _ _).alloc (Nat.le_refl _) _) (ys := [(47 : Int), (46 : Int)]) rfl hown3 hgrow3; have Z3 := Lib.hid z3; have Z4 := Lib.hid z4; have Z5 := Lib.hid z5; have cq3 := own_cap hown3; clear z3 z4 z5 hown3 hgrow3 hat3 hlt3)
            go_roundg (gk - 1)
            case measure => omega
            case rel => exact ⟨0 + 1, j + 2, some (xs ++ [(47 : Int), (46 : Int)]), rfl, rfl, by omega, by have := HJ.out; have := HX.out; omega, by have := HJ.out; show j + 2 = (xs ++ [(47 : Int), (46 : Int)]).length; simp; omega, Z3.out, by have := HX.out; show 1 ≤ 0 + 1 ∧ 1 ≤ (xs ++ [(47 : Int), (46 : Int)]).length ∧ (xs ++ [(47 : Int), (46 : Int)]).length ≤ 2 * (0 + 1); exact ⟨by omega, by simp only [List.length_append, List.length_cons, List.length_nil]; omega, by simp only [List.length_append, List.length_cons, List.length_nil]; omega⟩, HBW.out.trans Z4.out⟩
          · have hji : j = i := hJ.out
            obtain ⟨x, hx⟩ : ∃ x, f (a + (i - 1)) = x := ⟨_, rfl⟩
            have plx : Plain1 wc x := by rw [← hx]; exact HP.out (a + (i - 1)) (by omega) (by omega)
            have x0 : wr.cell? ⟨g, a + (j - 1), none⟩ = some (.int .u8 x) := by rw [hji, ← hx]; exact (hAr.out (a + (i - 1)) (by omega) (by omega)).2
            have r0 : wr.cell? ⟨B + 1 + 1, 0, none⟩ = some (.slice (some ⟨g, a, none⟩) n cap) := by rw [Lib.cell_of_heap (hC.out.none rfl)]; rfl
            have t0 : ((i : Int) == 0) = false := by simp; omega
            have tx : ((x : Int) == 46) = false := by have := plx.2.2.2.2.2.2.2.2.1; simp; omega
            have j1 : 1 ≤ j := by omega
            have j2 : j ≤ n := by omega
            have HJI := Lib.hid hji
            clear hx plx hji
            by_cases e1 : i = n - 1
            · have t1 : ((i : Int) == (n : Int) - 1) = true := by simp; omega
              have E1 := Lib.hid e1
              clear e1
              go_wp2_with fail
              refine (makeCopy_any B g a n cap i f hn hcap (by omega) wr hC.out hAr.out HG.out).mono ?_
              rintro e w1 ⟨rfl, hcv, hbl⟩
              have HX0 : Hid ((stretch f a i).length = i) := stretch_len _ _ _
              generalize stretch f a i = xs at hcv HX0
              have HCS := Lib.hid hcv
              have HBW : Hid (Below B w w1) := hB.out.trans hbl
              have HJ : Hid (j = xs.length) := by have h1 : j = i := hJ.out; have h2 := HX0.out; exact (by omega : j = xs.length)
              have HX : Hid (xs.length ≤ 2 * i) := by have h2 := HX0.out; exact (by omega : xs.length ≤ 2 * i)
              have m1 : w1.cell? ⟨B, 0, none⟩ = some (.slice (some ⟨g, a, none⟩) n cap) := by rw [Lib.cell_of_heap hcv.mt]; rfl
              have b1 : w1.cell? ⟨g, a + i, none⟩ = some (.int .u8 47) := by rw [hbl.cell (p := ⟨g, a + i, none⟩) HG.out]; exact b0
              clear m0 p0 b0 hcv hbl hC hB hAr
              obtain ⟨h, cc, k2, hO⟩ := HCS.out.some xs rfl
              have r0 : w1.cell? ⟨B + 1 + 1, 0, none⟩ = some (.slice (some ⟨h, 0, none⟩) xs.length cc) := by rw [Lib.cell_of_heap k2]; rfl
              have HO := Lib.hid hO
              have K2 := Lib.hid k2
              clear hO k2
              have hx2 : xs.length + 2 ≤ 131072 := by have := HX.out; omega
              have gl : g < w1.heap.size := by have := HG.out; have := HCS.out.lt; omega
              have wl : B + 2 < w1.heap.size := HCS.out.lt
              go_wp2_with (at_builtin; refine wpList_append_lies _ rfl _ _ 33 rfl (B + 3) 5 i0 (.int .u8 0) 1 1 under33 hi0 hz0 hz1 hz2 rfl (by decide) (.slice (some ⟨h, 0, none⟩) xs.length cc) xs.length (cellsOf xs) rfl (HO.out.alloc _) ⟨w1.heap.size, 0, none⟩ 2 2 (cellsOf [(46 : Int), (47 : Int)]) rfl rfl (World.news_of_block (cs := #[.int .u8 46, .int .u8 47]) (t := 5) (fr := (0, 0)) (heap_alloc_new w1 _)) (cellsOf_one _) (by omega) (by unfold maxLen; omega) (by omega) (by simp; omega) (w1.heap.size + 1) (by simp) ?_; intro gg cap3 W3 hown3 hgrow3 hat3 hlt3; obtain ⟨z1, z2, z3, z4, z5⟩ := app_step HCS.out K2.out HO.out ((Below.refl _ _).alloc (Nat.le_refl _) _) (ys := [(46 : Int), (47 : Int)]) rfl hown3 hgrow3; have Z3 := Lib.hid z3; have Z4 := Lib.hid z4; have Z5 := Lib.hid z5; have cq3 := own_cap hown3; clear z3 z4 z5 hown3 hgrow3 hat3 hlt3)
              go_roundg (gk - 1)
              case measure => omega
              case rel => exact ⟨i + 1, j + 2, some (xs ++ [(46 : Int), (47 : Int)]), rfl, rfl, by omega, by have := HJ.out; have := HX.out; omega, by have := HJ.out; show j + 2 = (xs ++ [(46 : Int), (47 : Int)]).length; simp; omega, Z3.out, by have := HX.out; show 1 ≤ i + 1 ∧ 1 ≤ (xs ++ [(46 : Int), (47 : Int)]).length ∧ (xs ++ [(46 : Int), (47 : Int)]).length ≤ 2 * (i + 1); exact ⟨by omega, by simp only [List.length_append, List.length_cons, List.length_nil]; omega, by simp only [List.length_append, List.length_cons, List.length_nil]; omega⟩, HBW.out.trans Z4.out⟩
            · have t1 : ((i : Int) == (n : Int) - 1) = false := by simp; omega
              obtain ⟨d, hd⟩ : ∃ d, f (a + (i + 1)) = d := ⟨_, rfl⟩
              have d0 : wr.cell? ⟨g, a + (i + 1), none⟩ = some (.int .u8 d) := by rw [← hd]; exact (hAr.out (a + (i + 1)) (by omega) (by omega)).2
              have HDI := Lib.hid hd
              clear hd
              by_cases e2 : d = 47
              · have t2 : ((d : Int) == 47) = true := by simp; omega
                go_wp2_with fail
                refine (makeCopy_any B g a n cap i f hn hcap (by omega) wr hC.out hAr.out HG.out).mono ?_
                rintro e w1 ⟨rfl, hcv, hbl⟩
                have HX0 : Hid ((stretch f a i).length = i) := stretch_len _ _ _
                generalize stretch f a i = xs at hcv HX0
                have HCS := Lib.hid hcv
                have HBW : Hid (Below B w w1) := hB.out.trans hbl
                have HJ : Hid (j = xs.length) := by have h1 : j = i := hJ.out; have h2 := HX0.out; exact (by omega : j = xs.length)
                have HX : Hid (xs.length ≤ 2 * i) := by have h2 := HX0.out; exact (by omega : xs.length ≤ 2 * i)
                have m1 : w1.cell? ⟨B, 0, none⟩ = some (.slice (some ⟨g, a, none⟩) n cap) := by rw [Lib.cell_of_heap hcv.mt]; rfl
                have b1 : w1.cell? ⟨g, a + i, none⟩ = some (.int .u8 47) := by rw [hbl.cell (p := ⟨g, a + i, none⟩) HG.out]; exact b0
                clear m0 p0 b0 hcv hbl hC hB hAr
                obtain ⟨h, cc, k2, hO⟩ := HCS.out.some xs rfl
                have r0 : w1.cell? ⟨B + 1 + 1, 0, none⟩ = some (.slice (some ⟨h, 0, none⟩) xs.length cc) := by rw [Lib.cell_of_heap k2]; rfl
                have HO := Lib.hid hO
                have K2 := Lib.hid k2
                clear hO k2
                have hx2 : xs.length + 2 ≤ 131072 := by have := HX.out; omega
                have gl : g < w1.heap.size := by have := HG.out; have := HCS.out.lt; omega
                have wl : B + 2 < w1.heap.size := HCS.out.lt
                go_wp2_with (at_builtin; refine wpList_append_lies _ rfl _ _ 33 rfl (B + 3) 5 i0 (.int .u8 0) 1 1 under33 hi0 hz0 hz1 hz2 rfl (by decide) (.slice (some ⟨h, 0, none⟩) xs.length cc) xs.length (cellsOf xs) rfl (HO.out.alloc _) ⟨w1.heap.size, 0, none⟩ 2 2 (cellsOf [(46 : Int), (47 : Int)]) rfl rfl (World.news_of_block (cs := #[.int .u8 46, .int .u8 47]) (t := 5) (fr := (0, 0)) (heap_alloc_new w1 _)) (cellsOf_one _) (by omega) (by unfold maxLen; omega) (by omega) (by simp; omega) (w1.heap.size + 1) (by simp) ?_; intro gg cap3 W3 hown3 hgrow3 hat3 hlt3; obtain ⟨z1, z2, z3, z4, z5⟩ := app_step HCS.out K2.out HO.out ((Below.refl _ _).alloc (Nat.le_refl _) _) (ys := [(46 : Int), (47 : Int)]) rfl hown3 hgrow3; have Z3 := Lib.hid z3; have Z4 := Lib.hid z4; have Z5 := Lib.hid z5; have cq3 := own_cap hown3; clear z3 z4 z5 hown3 hgrow3 hat3 hlt3)
                go_roundg (gk - 1)
                case measure => omega
                case rel => exact ⟨i + 1, j + 2, some (xs ++ [(46 : Int), (47 : Int)]), rfl, rfl, by omega, by have := HJ.out; have := HX.out; omega, by have := HJ.out; show j + 2 = (xs ++ [(46 : Int), (47 : Int)]).length; simp; omega, Z3.out, by have := HX.out; show 1 ≤ i + 1 ∧ 1 ≤ (xs ++ [(46 : Int), (47 : Int)]).length ∧ (xs ++ [(46 : Int), (47 : Int)]).length ≤ 2 * (i + 1); exact ⟨by omega, by simp only [List.length_append, List.length_cons, List.length_nil]; omega, by simp only [List.length_append, List.length_cons, List.length_nil]; omega⟩, HBW.out.trans Z4.out⟩
              · have t2 : ((d : Int) == 47) = false := by simp; omega
                go_wp2_with fail
                refine (makeCopy_any B g a n cap i f hn hcap (by omega) wr hC.out hAr.out HG.out).mono ?_
                rintro e w1 ⟨rfl, hcv, hbl⟩
                have HX0 : Hid ((stretch f a i).length = i) := stretch_len _ _ _
                generalize stretch f a i = xs at hcv HX0
                have HCS := Lib.hid hcv
                have HBW : Hid (Below B w w1) := hB.out.trans hbl
                have HJ : Hid (j = xs.length) := by have h1 : j = i := hJ.out; have h2 := HX0.out; exact (by omega : j = xs.length)
                have HX : Hid (xs.length ≤ 2 * i) := by have h2 := HX0.out; exact (by omega : xs.length ≤ 2 * i)
                have m1 : w1.cell? ⟨B, 0, none⟩ = some (.slice (some ⟨g, a, none⟩) n cap) := by rw [Lib.cell_of_heap hcv.mt]; rfl
                have b1 : w1.cell? ⟨g, a + i, none⟩ = some (.int .u8 47) := by rw [hbl.cell (p := ⟨g, a + i, none⟩) HG.out]; exact b0
                clear m0 p0 b0 hcv hbl hC hB hAr
                obtain ⟨h, cc, k2, hO⟩ := HCS.out.some xs rfl
                have r0 : w1.cell? ⟨B + 1 + 1, 0, none⟩ = some (.slice (some ⟨h, 0, none⟩) xs.length cc) := by rw [Lib.cell_of_heap k2]; rfl
                have HO := Lib.hid hO
                have K2 := Lib.hid k2
                clear hO k2
                have hx2 : xs.length + 2 ≤ 131072 := by have := HX.out; omega
                have gl : g < w1.heap.size := by have := HG.out; have := HCS.out.lt; omega
                have wl : B + 2 < w1.heap.size := HCS.out.lt
                go_wp2_with (at_builtin; refine wpList_append_lies _ rfl _ _ 33 rfl (B + 3) 5 i0 (.int .u8 0) 1 1 under33 hi0 hz0 hz1 hz2 rfl (by decide) (.slice (some ⟨h, 0, none⟩) xs.length cc) xs.length (cellsOf xs) rfl (HO.out.alloc _) ⟨w1.heap.size, 0, none⟩ 1 1 (cellsOf [(46 : Int)]) rfl rfl (World.news_of_block (cs := #[.int .u8 46]) (t := 5) (fr := (0, 0)) (heap_alloc_new w1 _)) (cellsOf_one _) (by omega) (by unfold maxLen; omega) (by omega) (by simp; omega) (w1.heap.size + 1) (by simp) ?_; intro gg cap3 W3 hown3 hgrow3 hat3 hlt3; obtain ⟨z1, z2, z3, z4, z5⟩ := app_step HCS.out K2.out HO.out ((Below.refl _ _).alloc (Nat.le_refl _) _) (ys := [(46 : Int)]) rfl hown3 hgrow3; have Z3 := Lib.hid z3; have Z4 := Lib.hid z4; have Z5 := Lib.hid z5; have cq3 := own_cap hown3; clear z3 z4 z5 hown3 hgrow3 hat3 hlt3)
                go_roundg (gk - 1)
                case measure => omega
                case rel => exact ⟨i + 1, j + 1, some (xs ++ [(46 : Int)]), rfl, rfl, by omega, by have := HJ.out; have := HX.out; omega, by have := HJ.out; show j + 1 = (xs ++ [(46 : Int)]).length; simp; omega, Z3.out, by have := HX.out; show 1 ≤ i + 1 ∧ 1 ≤ (xs ++ [(46 : Int)]).length ∧ (xs ++ [(46 : Int)]).length ≤ 2 * (i + 1); exact ⟨by omega, by simp only [List.length_append, List.length_cons, List.length_nil]; omega, by simp only [List.length_append, List.length_cons, List.length_nil]; omega⟩, HBW.out.trans Z4.out⟩
        | some xs =>
          simp only [Option.isSome] at p0
          have hF3 : 1 ≤ i ∧ 1 ≤ xs.length ∧ xs.length ≤ 2 * i := hF.out
          obtain ⟨hq1, hq2, hq3⟩ := hF3
          obtain ⟨x, hx⟩ : ∃ x, xs.getD (j - 1) 0 = x := ⟨_, rfl⟩
          have hjl : j = xs.length := hJ.out
          obtain ⟨h, cc, k2, hO⟩ := hC.out.some xs rfl
          have r0 : wr.cell? ⟨B + 1 + 1, 0, none⟩ = some (.slice (some ⟨h, 0, none⟩) xs.length cc) := by rw [Lib.cell_of_heap k2]; rfl
          have x0 : wr.cell? ⟨h, j - 1, none⟩ = some (.int .u8 x) := by
            have := hO.cellAt (j - 1) (by omega)
            rw [this, ← hx]
            have hlt' : j - 1 < xs.length := by omega
            simp [cellsOf, List.getElem?_map, List.getElem?_eq_getElem hlt', List.getD]
          have j1 : 1 ≤ j := by omega
          have j2 : j ≤ xs.length := by omega
          have t0 : ((i : Int) == 0) = false := by simp; omega
          clear hx hjl
          by_cases ex : x = 46
          · have tx : (x == 46) = true := by simp; omega
            clear ex
            have HCS := hC
            have HBW := hB
            have HJ : Hid (j = xs.length) := hJ.out
            have HX : Hid (xs.length ≤ 2 * i) := by have : 1 ≤ i ∧ 1 ≤ xs.length ∧ xs.length ≤ 2 * i := hF.out; exact this.2.2
            have HO := Lib.hid hO
            have K2 := Lib.hid k2
            clear hO k2
            have hx2 : xs.length + 2 ≤ 131072 := by have := HX.out; omega
            have gl : g < wr.heap.size := by have := HG.out; have := HCS.out.lt; omega
            have wl : B + 2 < wr.heap.size := HCS.out.lt
            go_wp2_with (at_builtin; refine wpList_append_lies _ rfl _ _ 33 rfl (B + 3) 5 i0 (.int .u8 0) 1 1 under33 hi0 hz0 hz1 hz2 rfl (by decide) (.slice (some ⟨h, 0, none⟩) xs.length cc) xs.length (cellsOf xs) rfl (HO.out.alloc _) ⟨wr.heap.size, 0, none⟩ 2 2 (cellsOf [(47 : Int), (46 : Int)]) rfl rfl (World.news_of_block (cs := #[.int .u8 47, .int .u8 46]) (t := 5) (fr := (0, 0)) (heap_alloc_new wr _)) (cellsOf_one _) (by omega) (by unfold maxLen; omega) (by omega) (by simp; omega) (wr.heap.size + 1) (by simp) ?_; intro gg cap3 W3 hown3 hgrow3 hat3 hlt3; obtain ⟨z1, z2, z3, z4, z5⟩ := app_step HCS.out K2.out HO.out ((Below.refl _ _).alloc (Nat.le_refl _) _) (ys := [(47 : Int), (46 : Int)]) rfl hown3 hgrow3; have Z3 := Lib.hid z3; have Z4 := Lib.hid z4; have Z5 := Lib.hid z5; have cq3 := own_cap hown3; clear z3 z4 z5 hown3 hgrow3 hat3 hlt3)
            go_roundg (gk - 1)
            case measure => omega
            case rel => exact ⟨i + 1, j + 2, some (xs ++ [(47 : Int), (46 : Int)]), rfl, rfl, by omega, by have := HJ.out; have := HX.out; omega, by have := HJ.out; show j + 2 = (xs ++ [(47 : Int), (46 : Int)]).length; simp; omega, Z3.out, by have := HX.out; show 1 ≤ i + 1 ∧ 1 ≤ (xs ++ [(47 : Int), (46 : Int)]).length ∧ (xs ++ [(47 : Int), (46 : Int)]).length ≤ 2 * (i + 1); exact ⟨by omega, by simp only [List.length_append, List.length_cons, List.length_nil]; omega, by simp only [List.length_append, List.length_cons, List.length_nil]; omega⟩, HBW.out.trans Z4.out⟩
          · have tx : (x == 46) = false := by simp; omega
            clear ex
            by_cases e1 : i = n - 1
            · have t1 : ((i : Int) == (n : Int) - 1) = true := by simp; omega
              have E1 := Lib.hid e1
              clear e1
              have HCS := hC
              have HBW := hB
              have HJ : Hid (j = xs.length) := hJ.out
              have HX : Hid (xs.length ≤ 2 * i) := by have : 1 ≤ i ∧ 1 ≤ xs.length ∧ xs.length ≤ 2 * i := hF.out; exact this.2.2
              have HO := Lib.hid hO
              have K2 := Lib.hid k2
              clear hO k2
              have hx2 : xs.length + 2 ≤ 131072 := by have := HX.out; omega
              have gl : g < wr.heap.size := by have := HG.out; have := HCS.out.lt; omega
              have wl : B + 2 < wr.heap.size := HCS.out.lt
              go_wp2_with (at_builtin; refine wpList_append_lies _ rfl _ _ 33 rfl (B + 3) 5 i0 (.int .u8 0) 1 1 under33 hi0 hz0 hz1 hz2 rfl (by decide) (.slice (some ⟨h, 0, none⟩) xs.length cc) xs.length (cellsOf xs) rfl (HO.out.alloc _) ⟨wr.heap.size, 0, none⟩ 2 2 (cellsOf [(46 : Int), (47 : Int)]) rfl rfl (World.news_of_block (cs := #[.int .u8 46, .int .u8 47]) (t := 5) (fr := (0, 0)) (heap_alloc_new wr _)) (cellsOf_one _) (by omega) (by unfold maxLen; omega) (by omega) (by simp; omega) (wr.heap.size + 1) (by simp) ?_; intro gg cap3 W3 hown3 hgrow3 hat3 hlt3; obtain ⟨z1, z2, z3, z4, z5⟩ := app_step HCS.out K2.out HO.out ((Below.refl _ _).alloc (Nat.le_refl _) _) (ys := [(46 : Int), (47 : Int)]) rfl hown3 hgrow3; have Z3 := Lib.hid z3; have Z4 := Lib.hid z4; have Z5 := Lib.hid z5; have cq3 := own_cap hown3; clear z3 z4 z5 hown3 hgrow3 hat3 hlt3)
              go_roundg (gk - 1)
              case measure => omega
              case rel => exact ⟨i + 1, j + 2, some (xs ++ [(46 : Int), (47 : Int)]), rfl, rfl, by omega, by have := HJ.out; have := HX.out; omega, by have := HJ.out; show j + 2 = (xs ++ [(46 : Int), (47 : Int)]).length; simp; omega, Z3.out, by have := HX.out; show 1 ≤ i + 1 ∧ 1 ≤ (xs ++ [(46 : Int), (47 : Int)]).length ∧ (xs ++ [(46 : Int), (47 : Int)]).length ≤ 2 * (i + 1); exact ⟨by omega, by simp only [List.length_append, List.length_cons, List.length_nil]; omega, by simp only [List.length_append, List.length_cons, List.length_nil]; omega⟩, HBW.out.trans Z4.out⟩
            · have t1 : ((i : Int) == (n : Int) - 1) = false := by simp; omega
              obtain ⟨d, hd⟩ : ∃ d, f (a + (i + 1)) = d := ⟨_, rfl⟩
              have d0 : wr.cell? ⟨g, a + (i + 1), none⟩ = some (.int .u8 d) := by rw [← hd]; exact (hAr.out (a + (i + 1)) (by omega) (by omega)).2
              have HDI := Lib.hid hd
              clear hd
              by_cases e2 : d = 47
              · have t2 : ((d : Int) == 47) = true := by simp; omega
                have HCS := hC
                have HBW := hB
                have HJ : Hid (j = xs.length) := hJ.out
                have HX : Hid (xs.length ≤ 2 * i) := by have : 1 ≤ i ∧ 1 ≤ xs.length ∧ xs.length ≤ 2 * i := hF.out; exact this.2.2
                have HO := Lib.hid hO
                have K2 := Lib.hid k2
                clear hO k2
                have hx2 : xs.length + 2 ≤ 131072 := by have := HX.out; omega
                have gl : g < wr.heap.size := by have := HG.out; have := HCS.out.lt; omega
                have wl : B + 2 < wr.heap.size := HCS.out.lt
                go_wp2_with (at_builtin; refine wpList_append_lies _ rfl _ _ 33 rfl (B + 3) 5 i0 (.int .u8 0) 1 1 under33 hi0 hz0 hz1 hz2 rfl (by decide) (.slice (some ⟨h, 0, none⟩) xs.length cc) xs.length (cellsOf xs) rfl (HO.out.alloc _) ⟨wr.heap.size, 0, none⟩ 2 2 (cellsOf [(46 : Int), (47 : Int)]) rfl rfl (World.news_of_block (cs := #[.int .u8 46, .int .u8 47]) (t := 5) (fr := (0, 0)) (heap_alloc_new wr _)) (cellsOf_one _) (by omega) (by unfold maxLen; omega) (by omega) (by simp; omega) (wr.heap.size + 1) (by simp) ?_; intro gg cap3 W3 hown3 hgrow3 hat3 hlt3; obtain ⟨z1, z2, z3, z4, z5⟩ := app_step HCS.out K2.out HO.out ((Below.refl _ _).alloc (Nat.le_refl _) _) (ys := [(46 : Int), (47 : Int)]) rfl hown3 hgrow3; have Z3 := Lib.hid z3; have Z4 := Lib.hid z4; have Z5 := Lib.hid z5; have cq3 := own_cap hown3; clear z3 z4 z5 hown3 hgrow3 hat3 hlt3)
                go_roundg (gk - 1)
                case measure => omega
                case rel => exact ⟨i + 1, j + 2, some (xs ++ [(46 : Int), (47 : Int)]), rfl, rfl, by omega, by have := HJ.out; have := HX.out; omega, by have := HJ.out; show j + 2 = (xs ++ [(46 : Int), (47 : Int)]).length; simp; omega, Z3.out, by have := HX.out; show 1 ≤ i + 1 ∧ 1 ≤ (xs ++ [(46 : Int), (47 : Int)]).length ∧ (xs ++ [(46 : Int), (47 : Int)]).length ≤ 2 * (i + 1); exact ⟨by omega, by simp only [List.length_append, List.length_cons, List.length_nil]; omega, by simp only [List.length_append, List.length_cons, List.length_nil]; omega⟩, HBW.out.trans Z4.out⟩
              · have t2 : ((d : Int) == 47) = false := by simp; omega
                have HCS := hC
                have HBW := hB
                have HJ : Hid (j = xs.length) := hJ.out
                have HX : Hid (xs.length ≤ 2 * i) := by have : 1 ≤ i ∧ 1 ≤ xs.length ∧ xs.length ≤ 2 * i := hF.out; exact this.2.2
                have HO := Lib.hid hO
                have K2 := Lib.hid k2
                clear hO k2
                have hx2 : xs.length + 2 ≤ 131072 := by have := HX.out; omega
                have gl : g < wr.heap.size := by have := HG.out; have := HCS.out.lt; omega
                have wl : B + 2 < wr.heap.size := HCS.out.lt
                go_wp2_with (at_builtin; refine wpList_append_lies _ rfl _ _ 33 rfl (B + 3) 5 i0 (.int .u8 0) 1 1 under33 hi0 hz0 hz1 hz2 rfl (by decide) (.slice (some ⟨h, 0, none⟩) xs.length cc) xs.length (cellsOf xs) rfl (HO.out.alloc _) ⟨wr.heap.size, 0, none⟩ 1 1 (cellsOf [(46 : Int)]) rfl rfl (World.news_of_block (cs := #[.int .u8 46]) (t := 5) (fr := (0, 0)) (heap_alloc_new wr _)) (cellsOf_one _) (by omega) (by unfold maxLen; omega) (by omega) (by simp; omega) (wr.heap.size + 1) (by simp) ?_; intro gg cap3 W3 hown3 hgrow3 hat3 hlt3; obtain ⟨z1, z2, z3, z4, z5⟩ := app_step HCS.out K2.out HO.out ((Below.refl _ _).alloc (Nat.le_refl _) _) (ys := [(46 : Int)]) rfl hown3 hgrow3; have Z3 := Lib.hid z3; have Z4 := Lib.hid z4; have Z5 := Lib.hid z5; have cq3 := own_cap hown3; clear z3 z4 z5 hown3 hgrow3 hat3 hlt3)
                go_roundg (gk - 1)
                case measure => omega
                case rel => exact ⟨i + 1, j + 1, some (xs ++ [(46 : Int)]), rfl, rfl, by omega, by have := HJ.out; have := HX.out; omega, by have := HJ.out; show j + 1 = (xs ++ [(46 : Int)]).length; simp; omega, Z3.out, by have := HX.out; show 1 ≤ i + 1 ∧ 1 ≤ (xs ++ [(46 : Int)]).length ∧ (xs ++ [(46 : Int)]).length ≤ 2 * (i + 1); exact ⟨by omega, by simp only [List.length_append, List.length_cons, List.length_nil]; omega, by simp only [List.length_append, List.length_cons, List.length_nil]; omega⟩, HBW.out.trans Z4.out⟩
      · by_cases c43 : c = 43
        · skip
          obtain rfl : c = 43 := by omega
          obtain rfl : wc = true := by
            cases wc with
            | true => rfl
            | false => exact absurd rfl (Q10.out rfl).1
          replace b0 : wr.cell? ⟨g, a + i, none⟩ = some (.int .u8 43) := b0
          cases l with
          | none =>
            simp only [Option.isSome] at p0
            go_wp2_with fail
            refine (makeCopy_any B g a n cap i f hn hcap (by omega) wr hC.out hAr.out HG.out).mono ?_
            rintro e w1 ⟨rfl, hcv, hbl⟩
            have HX0 : Hid ((stretch f a i).length = i) := stretch_len _ _ _
            generalize stretch f a i = xs at hcv HX0
            have HCS := Lib.hid hcv
            have HBW : Hid (Below B w w1) := hB.out.trans hbl
            have HJ : Hid (j = xs.length) := by have h1 : j = i := hJ.out; have h2 := HX0.out; exact (by omega : j = xs.length)
            have HX : Hid (xs.length ≤ 2 * i) := by have h2 := HX0.out; exact (by omega : xs.length ≤ 2 * i)
            have m1 : w1.cell? ⟨B, 0, none⟩ = some (.slice (some ⟨g, a, none⟩) n cap) := by rw [Lib.cell_of_heap hcv.mt]; rfl
            have b1 : w1.cell? ⟨g, a + i, none⟩ = some (.int .u8 43) := by rw [hbl.cell (p := ⟨g, a + i, none⟩) HG.out]; exact b0
            clear m0 p0 b0 hcv hbl hC hB hAr
            obtain ⟨h, cc, k2, hO⟩ := HCS.out.some xs rfl
            have r0 : w1.cell? ⟨B + 1 + 1, 0, none⟩ = some (.slice (some ⟨h, 0, none⟩) xs.length cc) := by rw [Lib.cell_of_heap k2]; rfl
            have HO := Lib.hid hO
            have K2 := Lib.hid k2
            clear hO k2
            have hx2 : xs.length + 2 ≤ 131072 := by have := HX.out; omega
            have gl : g < w1.heap.size := by have := HG.out; have := HCS.out.lt; omega
            have wl : B + 2 < w1.heap.size := HCS.out.lt
            go_wp2_with (at_builtin; refine wpList_append_lies _ rfl _ _ 33 rfl (B + 3) 5 i0 (.int .u8 0) 1 1 under33 hi0 hz0 hz1 hz2 rfl (by decide) (.slice (some ⟨h, 0, none⟩) xs.length cc) xs.length (cellsOf xs) rfl (HO.out.alloc _) ⟨w1.heap.size, 0, none⟩ 1 1 (cellsOf [(42 : Int)]) rfl rfl (World.news_of_block (cs := #[.int .u8 42]) (t := 5) (fr := (0, 0)) (heap_alloc_new w1 _)) (cellsOf_one _) (by omega) (by unfold maxLen; omega) (by omega) (by simp; omega) (w1.heap.size + 1) (by simp) ?_; intro gg cap3 W3 hown3 hgrow3 hat3 hlt3; obtain ⟨z1, z2, z3, z4, z5⟩ := app_step HCS.out K2.out HO.out ((Below.refl _ _).alloc (Nat.le_refl _) _) (ys := [(42 : Int)]) rfl hown3 hgrow3; have Z3 := Lib.hid z3; have Z4 := Lib.hid z4; have Z5 := Lib.hid z5; have cq3 := own_cap hown3; clear z3 z4 z5 hown3 hgrow3 hat3 hlt3)
            go_roundg (gk - 1)
            case measure => omega
            case rel => exact ⟨i + 1, j + 1, some (xs ++ [(42 : Int)]), rfl, rfl, by omega, by have := HJ.out; have := HX.out; omega, by have := HJ.out; show j + 1 = (xs ++ [(42 : Int)]).length; simp; omega, Z3.out, by have := HX.out; show 1 ≤ i + 1 ∧ 1 ≤ (xs ++ [(42 : Int)]).length ∧ (xs ++ [(42 : Int)]).length ≤ 2 * (i + 1); exact ⟨by omega, by simp only [List.length_append, List.length_cons, List.length_nil]; omega, by simp only [List.length_append, List.length_cons, List.length_nil]; omega⟩, HBW.out.trans Z4.out⟩

          | some xs =>
            simp only [Option.isSome] at p0
            have HCS := hC
            have HBW := hB
            have HJ : Hid (j = xs.length) := hJ.out
            have HX : Hid (xs.length ≤ 2 * i) := by have : 1 ≤ i ∧ 1 ≤ xs.length ∧ xs.length ≤ 2 * i := hF.out; exact this.2.2
            obtain ⟨h, cc, k2, hO⟩ := HCS.out.some xs rfl
            have r0 : wr.cell? ⟨B + 1 + 1, 0, none⟩ = some (.slice (some ⟨h, 0, none⟩) xs.length cc) := by rw [Lib.cell_of_heap k2]; rfl
            have HO := Lib.hid hO
            have K2 := Lib.hid k2
            clear hO k2
            have hx2 : xs.length + 2 ≤ 131072 := by have := HX.out; omega
            have gl : g < wr.heap.size := by have := HG.out; have := HCS.out.lt; omega
            have wl : B + 2 < wr.heap.size := HCS.out.lt
            go_wp2_with (at_builtin; refine wpList_append_lies _ rfl _ _ 33 rfl (B + 3) 5 i0 (.int .u8 0) 1 1 under33 hi0 hz0 hz1 hz2 rfl (by decide) (.slice (some ⟨h, 0, none⟩) xs.length cc) xs.length (cellsOf xs) rfl (HO.out.alloc _) ⟨wr.heap.size, 0, none⟩ 1 1 (cellsOf [(42 : Int)]) rfl rfl (World.news_of_block (cs := #[.int .u8 42]) (t := 5) (fr := (0, 0)) (heap_alloc_new wr _)) (cellsOf_one _) (by omega) (by unfold maxLen; omega) (by omega) (by simp; omega) (wr.heap.size + 1) (by simp) ?_; intro gg cap3 W3 hown3 hgrow3 hat3 hlt3; obtain ⟨z1, z2, z3, z4, z5⟩ := app_step HCS.out K2.out HO.out ((Below.refl _ _).alloc (Nat.le_refl _) _) (ys := [(42 : Int)]) rfl hown3 hgrow3; have Z3 := Lib.hid z3; have Z4 := Lib.hid z4; have Z5 := Lib.hid z5; have cq3 := own_cap hown3; clear z3 z4 z5 hown3 hgrow3 hat3 hlt3)
            go_roundg (gk - 1)
            case measure => omega
            case rel => exact ⟨i + 1, j + 1, some (xs ++ [(42 : Int)]), rfl, rfl, by omega, by have := HJ.out; have := HX.out; omega, by have := HJ.out; show j + 1 = (xs ++ [(42 : Int)]).length; simp; omega, Z3.out, by have := HX.out; show 1 ≤ i + 1 ∧ 1 ≤ (xs ++ [(42 : Int)]).length ∧ (xs ++ [(42 : Int)]).length ≤ 2 * (i + 1); exact ⟨by omega, by simp only [List.length_append, List.length_cons, List.length_nil]; omega, by simp only [List.length_append, List.length_cons, List.length_nil]; omega⟩, HBW.out.trans Z4.out⟩
        · by_cases c35 : c = 35
          · skip
            obtain rfl : c = 35 := by omega
            obtain rfl : wc = true := by
              cases wc with
              | true => rfl
              | false => exact absurd rfl (Q10.out rfl).2
            replace b0 : wr.cell? ⟨g, a + i, none⟩ = some (.int .u8 35) := b0
            cases l with
            | none =>
              simp only [Option.isSome] at p0
              go_wp2_with fail
              refine (makeCopy_any B g a n cap i f hn hcap (by omega) wr hC.out hAr.out HG.out).mono ?_
              rintro e w1 ⟨rfl, hcv, hbl⟩
              have HX0 : Hid ((stretch f a i).length = i) := stretch_len _ _ _
              generalize stretch f a i = xs at hcv HX0
              have HCS := Lib.hid hcv
              have HBW : Hid (Below B w w1) := hB.out.trans hbl
              have HJ : Hid (j = xs.length) := by have h1 : j = i := hJ.out; have h2 := HX0.out; exact (by omega : j = xs.length)
              have HX : Hid (xs.length ≤ 2 * i) := by have h2 := HX0.out; exact (by omega : xs.length ≤ 2 * i)
              have m1 : w1.cell? ⟨B, 0, none⟩ = some (.slice (some ⟨g, a, none⟩) n cap) := by rw [Lib.cell_of_heap hcv.mt]; rfl
              have b1 : w1.cell? ⟨g, a + i, none⟩ = some (.int .u8 35) := by rw [hbl.cell (p := ⟨g, a + i, none⟩) HG.out]; exact b0
              clear m0 p0 b0 hcv hbl hC hB hAr
              obtain ⟨h, cc, k2, hO⟩ := HCS.out.some xs rfl
              have r0 : w1.cell? ⟨B + 1 + 1, 0, none⟩ = some (.slice (some ⟨h, 0, none⟩) xs.length cc) := by rw [Lib.cell_of_heap k2]; rfl
              have HO := Lib.hid hO
              have K2 := Lib.hid k2
              clear hO k2
              have hx2 : xs.length + 2 ≤ 131072 := by have := HX.out; omega
              have gl : g < w1.heap.size := by have := HG.out; have := HCS.out.lt; omega
              have wl : B + 2 < w1.heap.size := HCS.out.lt
              go_wp2_with (at_builtin; refine wpList_append_lies _ rfl _ _ 33 rfl (B + 3) 5 i0 (.int .u8 0) 1 1 under33 hi0 hz0 hz1 hz2 rfl (by decide) (.slice (some ⟨h, 0, none⟩) xs.length cc) xs.length (cellsOf xs) rfl (HO.out.alloc _) ⟨w1.heap.size, 0, none⟩ 1 1 (cellsOf [(62 : Int)]) rfl rfl (World.news_of_block (cs := #[.int .u8 62]) (t := 5) (fr := (0, 0)) (heap_alloc_new w1 _)) (cellsOf_one _) (by omega) (by unfold maxLen; omega) (by omega) (by simp; omega) (w1.heap.size + 1) (by simp) ?_; intro gg cap3 W3 hown3 hgrow3 hat3 hlt3; obtain ⟨z1, z2, z3, z4, z5⟩ := app_step HCS.out K2.out HO.out ((Below.refl _ _).alloc (Nat.le_refl _) _) (ys := [(62 : Int)]) rfl hown3 hgrow3; have Z3 := Lib.hid z3; have Z4 := Lib.hid z4; have Z5 := Lib.hid z5; have cq3 := own_cap hown3; clear z3 z4 z5 hown3 hgrow3 hat3 hlt3)
              go_roundg (gk - 1)
              case measure => omega
              case rel => exact ⟨i + 1, j + 1, some (xs ++ [(62 : Int)]), rfl, rfl, by omega, by have := HJ.out; have := HX.out; omega, by have := HJ.out; show j + 1 = (xs ++ [(62 : Int)]).length; simp; omega, Z3.out, by have := HX.out; show 1 ≤ i + 1 ∧ 1 ≤ (xs ++ [(62 : Int)]).length ∧ (xs ++ [(62 : Int)]).length ≤ 2 * (i + 1); exact ⟨by omega, by simp only [List.length_append, List.length_cons, List.length_nil]; omega, by simp only [List.length_append, List.length_cons, List.length_nil]; omega⟩, HBW.out.trans Z4.out⟩

            | some xs =>
              simp only [Option.isSome] at p0
              have HCS := hC
              have HBW := hB
              have HJ : Hid (j = xs.length) := hJ.out
              have HX : Hid (xs.length ≤ 2 * i) := by have : 1 ≤ i ∧ 1 ≤ xs.length ∧ xs.length ≤ 2 * i := hF.out; exact this.2.2
              obtain ⟨h, cc, k2, hO⟩ := HCS.out.some xs rfl
              have r0 : wr.cell? ⟨B + 1 + 1, 0, none⟩ = some (.slice (some ⟨h, 0, none⟩) xs.length cc) := by rw [Lib.cell_of_heap k2]; rfl
              have HO := Lib.hid hO
              have K2 := Lib.hid k2
              clear hO k2
              have hx2 : xs.length + 2 ≤ 131072 := by have := HX.out; omega
              have gl : g < wr.heap.size := by have := HG.out; have := HCS.out.lt; omega
              have wl : B + 2 < wr.heap.size := HCS.out.lt
              go_wp2_with (at_builtin; refine wpList_append_lies _ rfl _ _ 33 rfl (B + 3) 5 i0 (.int .u8 0) 1 1 under33 hi0 hz0 hz1 hz2 rfl (by decide) (.slice (some ⟨h, 0, none⟩) xs.length cc) xs.length (cellsOf xs) rfl (HO.out.alloc _) ⟨wr.heap.size, 0, none⟩ 1 1 (cellsOf [(62 : Int)]) rfl rfl (World.news_of_block (cs := #[.int .u8 62]) (t := 5) (fr := (0, 0)) (heap_alloc_new wr _)) (cellsOf_one _) (by omega) (by unfold maxLen; omega) (by omega) (by simp; omega) (wr.heap.size + 1) (by simp) ?_; intro gg cap3 W3 hown3 hgrow3 hat3 hlt3; obtain ⟨z1, z2, z3, z4, z5⟩ := app_step HCS.out K2.out HO.out ((Below.refl _ _).alloc (Nat.le_refl _) _) (ys := [(62 : Int)]) rfl hown3 hgrow3; have Z3 := Lib.hid z3; have Z4 := Lib.hid z4; have Z5 := Lib.hid z5; have cq3 := own_cap hown3; clear z3 z4 z5 hown3 hgrow3 hat3 hlt3)
              go_roundg (gk - 1)
              case measure => omega
              case rel => exact ⟨i + 1, j + 1, some (xs ++ [(62 : Int)]), rfl, rfl, by omega, by have := HJ.out; have := HX.out; omega, by have := HJ.out; show j + 1 = (xs ++ [(62 : Int)]).length; simp; omega, Z3.out, by have := HX.out; show 1 ≤ i + 1 ∧ 1 ≤ (xs ++ [(62 : Int)]).length ∧ (xs ++ [(62 : Int)]).length ≤ 2 * (i + 1); exact ⟨by omega, by simp only [List.length_append, List.length_cons, List.length_nil]; omega, by simp only [List.length_append, List.length_cons, List.length_nil]; omega⟩, HBW.out.trans Z4.out⟩
          · cases l with
            | none =>
              simp only [Option.isSome] at p0
              go_wp2_with fail
              go_roundg (gk - 1)
              case measure => omega
              case rel => exact ⟨i + 1, j + 1, none, rfl, rfl, by omega, by have : j = i := hJ.out; omega, by have : j = i := hJ.out; show j + 1 = i + 1; omega, hC.out, trivial, hB.out⟩
            | some xs =>
              simp only [Option.isSome] at p0
              obtain ⟨h, cc, k2, hO⟩ := hC.out.some xs rfl
              have r0 : wr.cell? ⟨B + 1 + 1, 0, none⟩ = some (.slice (some ⟨h, 0, none⟩) xs.length cc) := by rw [Lib.cell_of_heap k2]; rfl
              have HO := Lib.hid hO
              have K2 := Lib.hid k2
              clear hO k2
              have hx2 : xs.length + 2 ≤ 131070 := by have : 1 ≤ i ∧ 1 ≤ xs.length ∧ xs.length ≤ 2 * i := hF.out; omega
              have i1 : (i : Int) < (n : Int) := by omega
              have i2 : (0 : Int) ≤ (i : Int) := by omega
              have gl : g < wr.heap.size := by have := HG.out; omega
              go_wp2_with fail
              go_region_law (refine step_append_lies _ rfl (.tmp 28) (.tmp 33) 33 rfl (B + 3) 5 i0 (.int .u8 0) 1 1 under33 hi0 hz0 hz1 hz2 rfl (by decide) (.slice (some ⟨h, 0, none⟩) xs.length cc) xs.length (cellsOf xs) (by simp [Act.eval]) ((HO.out.alloc _).drew) ⟨wr.heap.size, 0, none⟩ 1 1 (cellsOf [(c : Int)]) (by simp [Act.eval]) (by rfl) (World.news_of_block (cs := #[.int .u8 c]) (t := 5) (fr := (0, 0)) (heap_alloc_new wr _)) (cellsOf_one [(c : Int)]) (by omega) (by unfold maxLen; omega) (by omega) (by simp; omega) (wr.heap.size + 1) (by simp) ?_; intro gg cap3 W3 hown3 hgrow3 hat3 hlt3; obtain ⟨z1, z2, z3, z4, z5⟩ := app_step hC.out K2.out HO.out (((Below.refl _ _).alloc (Nat.le_refl _) _).drew) (ys := [(c : Int)]) rfl hown3 hgrow3; have Z3 := Lib.hid z3; have Z4 := Lib.hid z4; have Z5 := Lib.hid z5; clear z3 z4 z5 hown3 hgrow3 hat3 hlt3)
              all_goals (go_wp2_with fail; go_roundg (gk - 1))
              all_goals first | omega | exact ⟨i + 1, j + 1, some (xs ++ [(c : Int)]), rfl, rfl, by omega, by have : j = xs.length := hJ.out; omega, by have : j = xs.length := hJ.out; show j + 1 = (xs ++ [(c : Int)]).length; simp; omega, Z3.out, by have : 1 ≤ i ∧ 1 ≤ xs.length ∧ xs.length ≤ 2 * i := hF.out; show 1 ≤ i + 1 ∧ 1 ≤ (xs ++ [(c : Int)]).length ∧ (xs ++ [(c : Int)]).length ≤ 2 * (i + 1); simp; omega, hB.out.trans Z4.out⟩
end Go.Proofs.YtpalhclllhbmkaaDoor
