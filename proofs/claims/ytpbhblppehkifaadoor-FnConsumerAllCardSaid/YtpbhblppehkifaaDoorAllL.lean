/- The walk of FnConsumerAll. -/
import Derived.Test.YtpbhblppehkifaaDoorAllP
import Derived.Test.YtpbhblppehkifaaDoorPFnConsumerx0
import Derived.Test.YtpbhblppehkifaaDoorDsR0
import Derived.Deep.AppendLies
namespace Go.Proofs.YtpbhblppehkifaaDoor
open Go Go.RowKit Con Go.Proofs.YtpbhblppehkifaaDoorW.PrintWords
set_option linter.unusedVariables false

theorem infoB : (Tryd.prog.info? 4).map (fun i => (i.zero, i.size, i.bytes)) = some (some (.bool false), 1, 1) := by kernel_rfl
theorem infoD : (Tryd.prog.info? 38).map (fun i => (i.zero, i.size, i.bytes)) = some (some (.agg #[.int .i64 0, .int .u64 0, .int .u64 0, .int .u64 0, .int .i64 0, .int .u64 0, .int .u64 0, .int .u64 0, .int .u64 0, .slice none 0 0, .slice none 0 0]), 11, 120) := by kernel_rfl

/-- Which were seen. -/
def seenL (os : List Nat) (m : Nat) : List Value := (List.range m).map fun j => .bool (decide (j ∈ os))
theorem seen_at {os : List Nat} {m x : Nat} (hx : x < m) : (seenL os m)[x]? = some (.bool (decide (x ∈ os))) := by
  unfold seenL
  simp [hx]
theorem seen_set {os : List Nat} {m x : Nat} (hx : x < m) : (seenL os m).set x (.bool true) = seenL (os ++ [x]) m := by
  refine List.ext_getElem? fun i => ?_
  rw [List.getElem?_set]
  by_cases h : x = i
  · subst h
    simp [seenL, hx]
  · rw [if_neg h]
    by_cases hi : i < m
    · rw [seen_at hi, seen_at hi]
      have e : decide (i ∈ os) = decide (i ∈ os ++ [x]) := by
        congr 1
        simp only [List.mem_append, List.mem_singleton, eq_iff_iff]
        exact ⟨Or.inl, fun h1 => h1.elim id (fun h1 => absurd h1.symm h)⟩
      rw [e]
    · simp [seenL, hi]
theorem DsRow.bare {w w' : World} {rows : List (List Value)} {ds : List Dd} (h : DsRow w rows ds) (hz : ∀ d ∈ ds, d.k = kz) : DsRow w' rows ds := ⟨h.1, fun i hi => by
  obtain ⟨A1, A2, q1, q2, e, hw, hr⟩ := h.2 i hi
  refine ⟨A1, A2, q1, q2, e, ?_, ?_⟩
  · rw [hz _ (List.getElem_mem hi)]; exact ws_nil _ _
  · rw [hz _ (List.getElem_mem hi)]; exact rs_nil _ _⟩
theorem int_at {w : World} {A : Option Addr} {l : List Int} (h : Kd.C (Kd.int .i64) w A l.length l) (i : Nat) (hi : i < l.length) : ∃ ad, A = some ad ∧ w.cell? (ad.add i) = some (.int .i64 l[i]) := by
  obtain ⟨ad, c, e, _, hK, hc⟩ := Kd.C_get h 0 (i : Int) (by omega) (by omega)
  refine ⟨ad, e, ?_⟩
  have e0 : c = [.int .i64 (l.getD (i : Int).toNat 0)] := hK
  subst e0
  have h1 := hc 0 _ rfl
  have e1 : (Kd.int .i64 : Kd Int).sz = 1 := rfl
  rw [e1] at h1
  simpa [hi] using h1
theorem own_heap {w : World} {B E k g n m : Nat} {xs : List Value} {f : Nat} (h : w.ownsRow B E k (.slice (some ⟨g, 0, none⟩) n m) f xs) : ∃ cur, w.heap[g]? = some (.cells cur E (0, 0)) := by
  rcases h.2 with ⟨h', _⟩ | ⟨g', cap', cur, h', hb, hg, _⟩
  · simp at h'
  · simp only [Value.slice.injEq, Option.some.injEq, Addr.mk.injEq, and_true] at h'
    obtain ⟨rfl, _⟩ := h'
    exact ⟨cur, hg⟩
theorem flat_snoc (rows : List (List Value)) (r : List Value) : (rows ++ [r]).flatten = rows.flatten ++ r := by simp
theorem made_seen (w : World) (m : Nat) (hm : m ≤ 100) : ∃ w', (Instr.makeSlice 41 (.int .i64 (m : Int)) (.int .i64 (m : Int))).run Tryd.prog w = .ok (.slice (some ⟨w.heap.size, 0, none⟩) m m) w' ∧
    w'.ownsRow w.heap.size 4 1 (.slice (some ⟨w.heap.size, 0, none⟩) m m) m (seenL [] m) ∧ w.grownBy w' none := by
  obtain ⟨i0, hi0, hz0, hz1, hz2⟩ := info_parts infoB
  obtain ⟨w', h1, h2, h3⟩ := run_makeSlice_full (P := Tryd.prog) (w := w) w.heap.size 41 4 i0 (.bool false) 1 Tryd.underlying41 hi0 hz0 hz1 .i64 .i64 m (by omega) (by rw [hz2]; omega) (by unfold maxLen; omega) (Nat.le_refl _)
  refine ⟨w', h1, ?_, h3⟩
  have e : (madeCells (Value.bool false).cells (m * 1)).toList = seenL [] m := by
    unfold seenL madeCells
    refine List.ext_getElem? fun i => ?_
    by_cases hi : i < m
    · simp [hi, Value.cells, Nat.mod_one]
    · simp [hi]
  rw [← e]
  exact h2

set_option maxRecDepth 100000 in
set_option maxHeartbeats 8000000 in
theorem all_law (many : Int) (A : Option Addr) (c : Nat) (l : List Int) (at_ : Int) (w : World) (hr : Kd.C (Kd.int .i64) w A l.length l) (hc : l.length ≤ c) (hS : SurC w) :
    Calls Tryd.prog 4 #[.int .i64 many, .slice A l.length c, .int .i64 at_] w fun e w' => e = .returned (.bool true) ∧ Below w.heap.size w w' := by
  have HS := hid hS
  have HR := hid hr
  have HC := hid hc
  clear hS hr hc
  by_cases c0 : 2147483647 < (l.length : Int)
  · have d0 : decide ((l.length : Int) > 2147483647) = true := decide_eq_true c0
    go_enter Tryd.func4, Tryd.ntmps4
    go_wp2_with fail
    go_ret
    exact ⟨rfl, Below.refl _ _⟩
  have d0 : decide ((l.length : Int) > 2147483647) = false := decide_eq_false c0
  by_cases c1 : many < 1
  · have d1 : decide (many < 1) = true := decide_eq_true c1
    go_enter Tryd.func4, Tryd.ntmps4
    go_wp2_with fail
    refine (awakeC_any w HS.out).mono ?_
    rintro e w1 ⟨rfl, hb⟩
    have HB := hid hb
    clear hb
    go_wp2_with fail
    go_ret
    exact ⟨rfl, HB.out⟩
  have d1 : decide (many < 1) = false := decide_eq_false c1
  by_cases c2 : many > 12
  · have d2 : decide (many > 12) = true := decide_eq_true c2
    go_enter Tryd.func4, Tryd.ntmps4
    go_wp2_with fail
    refine (awakeC_any w HS.out).mono ?_
    rintro e w1 ⟨rfl, hb⟩
    have HB := hid hb
    clear hb
    go_wp2_with fail
    go_ret
    exact ⟨rfl, HB.out⟩
  have d2 : decide (many > 12) = false := decide_eq_false c2
  by_cases c3 : (l.length : Int) ≠ many
  · have d3 : ((l.length : Int) != many) = true := bne_iff_ne.mpr c3
    go_enter Tryd.func4, Tryd.ntmps4
    go_wp2_with fail
    refine (awakeC_any w HS.out).mono ?_
    rintro e w1 ⟨rfl, hb⟩
    have HB := hid hb
    clear hb
    go_wp2_with fail
    go_ret
    exact ⟨rfl, HB.out⟩
  have c3' : (l.length : Int) = many := by omega
  have d3 : ((l.length : Int) != many) = false := bne_eq_false_iff_eq.mpr c3'
  by_cases c4 : at_ < 1
  · have d4 : decide (at_ < 1) = true := decide_eq_true c4
    clear c3'
    go_enter Tryd.func4, Tryd.ntmps4
    go_wp2_with fail
    refine (awakeC_any w HS.out).mono ?_
    rintro e w1 ⟨rfl, hb⟩
    have HB := hid hb
    clear hb
    go_wp2_with fail
    go_ret
    exact ⟨rfl, HB.out⟩
  have d4 : decide (at_ < 1) = false := decide_eq_false c4
  by_cases c5 : at_ > 1152921504606846976
  · have d5 : decide (at_ > 1152921504606846976) = true := decide_eq_true c5
    clear c3'
    go_enter Tryd.func4, Tryd.ntmps4
    go_wp2_with fail
    refine (awakeC_any w HS.out).mono ?_
    rintro e w1 ⟨rfl, hb⟩
    have HB := hid hb
    clear hb
    go_wp2_with fail
    go_ret
    exact ⟨rfl, HB.out⟩
  have d5 : decide (at_ > 1152921504606846976) = false := decide_eq_false c5
  obtain ⟨m, rfl⟩ : ∃ m : Nat, many = m := ⟨many.toNat, by omega⟩
  have hm12 : m ≤ 12 := by omega
  have hm1 : 1 ≤ m := by omega
  have hlm : Hid (l.length = m) := hid (by omega)
  clear c0 c1 c2 c3 c3' c4 c5
  obtain ⟨w1, hmk, hown, hgr⟩ := made_seen w m (by omega)
  have HMK := hid hmk
  have OS := hid hown
  have HB1 := hid (⟨hgr.os, hgr.tape, hgr.output, hgr.size, fun k hk => hgr.block k hk (by simp)⟩ : Below w.heap.size w w1)
  obtain ⟨i0, hi0, hz0, hz1, hz2⟩ := info_parts infoD
  clear hown hgr
  go_enter Tryd.func4, Tryd.ntmps4
  go_wp2_with fail
  clear hmk
  go_loopg [8, 9] m (fun gk v8 v9 wr => ∃ (i : Nat) (rows : List (List Value)), v9 = .int .i64 (i : Nat) ∧ Hid (gk = m - i ∧ i ≤ m) ∧ Hid (DsRow wr rows ((List.range i).map (dl at_))) ∧ Hid (wr.ownsRow w.heap.size 38 11 v8 i rows.flatten) ∧
    Hid (wr.ownsRow w.heap.size 4 1 (.slice (some ⟨w.heap.size, 0, none⟩) m m) m (seenL [] m)) ∧ Hid (Below w.heap.size w wr))
  case atStart => exact ⟨0, [], rfl, hid ⟨rfl, Nat.zero_le _⟩, hid (DsRow.nil _), hid (World.ownsRow_nil _ _ _ _), OS, HB1⟩
  case round =>
    clear OS HB1
    obtain ⟨i, rows, rfl, hgk, hrow, ho, hs, hb⟩ := hrel
    by_cases hlt : i < m
    · have hmeas : m - (i + 1) < gk := by have := hgk.out; omega
      have hbs := hid (hb.out.size)
      have a1 : i + 1 ≤ maxLen := by unfold maxLen; omega
      have a2 : (i + 1) * 120 ≤ 140737488355328 := by omega
      have a3 : w.heap.size ≤ wr.heap.size + 1 := by have := hbs.out; omega
      have nw := hid (heap_last wr (.cells #[.int .i64 0, .int .u64 ((i : Int) + 1), .int .u64 ((i : Int) + 1), .int .u64 1, .int .i64 at_, .int .u64 0, .int .u64 0, .int .u64 0, .int .u64 0, .slice none 0 0, .slice none 0 0] 38))
      go_wp2_with (at_builtin; refine wpList_append_lies _ rfl (.tmp 48) (.tmp 57) 22 rfl w.heap.size 38 i0 _ 11 120 Tryd.underlying22 hi0 hz0 hz1 hz2 rfl (by omega) u8 i rows.flatten rfl (ho.out.alloc _) ⟨wr.heap.size, 0, none⟩ 1 1 [.int .i64 0, .int .u64 ((i : Int) + 1), .int .u64 ((i : Int) + 1), .int .u64 1, .int .i64 at_, .int .u64 0, .int .u64 0, .int .u64 0, .int .u64 0, .slice none 0 0, .slice none 0 0] rfl rfl (World.news_of_block (cs := #[.int .i64 0, .int .u64 ((i : Int) + 1), .int .u64 ((i : Int) + 1), .int .u64 1, .int .i64 at_, .int .u64 0, .int .u64 0, .int .u64 0, .int .u64 0, .slice none 0 0, .slice none 0 0]) (t := 38) (fr := (0, 0)) nw.out) (by simp [Value.oneCell']) (by omega) a1 a2 (by simp; exact a3) (wr.heap.size + 1) (by simp) ?_; intro gg cap w4 hown1 hgrow hat hlt1; have OW := hid hown1; have GR := hid hgrow; clear hown1 hgrow hat)
      go_roundg (m - (i + 1))
      case measure => exact hmeas
      case rel =>
        have hkz : ∀ d ∈ (List.range i).map (dl at_), d.k = kz := fun d hd => by
          obtain ⟨j, _, rfl⟩ := List.mem_map.1 hd
          rfl
        refine ⟨i + 1, rows ++ [encD (dl at_ i) none none 0 0], rfl, hid ⟨rfl, hlt⟩, hid ?_, hid ?_, hid ?_, hid ?_⟩
        · rw [List.range_succ, List.map_append]
          exact DsRow.snoc (hrow.out.bare hkz) (dl at_ i) none none 0 0 (ws_nil _ _) (rs_nil _ _)
        · rw [flat_snoc]
          exact OW.out
        · exact own_other (hs.out.alloc _) GR.out (ho.out.alloc _) (by decide)
        · exact below_app hb.out hbs.out ho.out (Nat.le_refl _) GR.out
    · have him : i = m := by have := hgk.out; omega
      have hrow' : Hid (DsRow wr rows ((List.range m).map (dl at_) ++ ([] : List Nat).map ak)) := hid (by rw [← him]; simpa using hrow.out)
      have ho' : Hid (wr.ownsRow w.heap.size 38 11 u8 (m + 0) rows.flatten) := hid (by have := ho.out; rw [him] at this; exact this)
      clear hgk hlt hrow ho
      go_wp2_with fail
      go_loopg [8, 10] m (fun gk v8 v10 wr => ∃ (i : Nat) (os : List Nat) (rows : List (List Value)), v10 = .int .i64 (i : Nat) ∧ Hid (gk = m - i ∧ i ≤ m ∧ os.length = i) ∧ Hid (os.Nodup ∧ ∀ x ∈ os, x < m) ∧ Hid (DsRow wr rows ((List.range m).map (dl at_) ++ os.map ak)) ∧ Hid (wr.ownsRow w.heap.size 38 11 v8 (m + i) rows.flatten) ∧
        Hid (wr.ownsRow w.heap.size 4 1 (.slice (some ⟨w.heap.size, 0, none⟩) m m) m (seenL os m)) ∧ Hid (Below w.heap.size w wr))
      case atStart => exact ⟨0, [], rows, rfl, hid ⟨rfl, Nat.zero_le _, rfl⟩, hid ⟨List.nodup_nil, by simp⟩, hrow', ho', hs, hb⟩
      case round =>
        clear hrow' ho' hs hb him
        obtain ⟨i, os, rows, rfl, hgk, hnd, hrow, ho, hs, hb⟩ := hrel
        by_cases hlt : i < m
        · have hmeas : m - (i + 1) < gk := by have := hgk.out.1; omega
          have hil : i < l.length := by have := hlm.out; omega
          obtain ⟨ad, rfl, x0⟩ := int_at HR.out i hil
          have y0 : wr.cell? (ad.add i) = some (.int .i64 l[i]) := by rw [hb.out.cell (World.block_lt_of_cell? w _ x0)]; exact x0
          clear x0
          generalize l[i] = x at y0
          by_cases g1 : x < 0
          · have e1 : decide (x < 0) = true := decide_eq_true g1
            go_wp2_with fail
            refine (awakeC_any wr (HS.out.later hb.out)).mono ?_
            rintro e w9 ⟨rfl, hb9⟩
            have HB9 := hid (hb.out.trans (hb9.mono hb.out.size))
            clear hb9
            go_wp2_with fail
            go_ret
            exact ⟨rfl, HB9.out⟩
          have e1 : decide (x < 0) = false := decide_eq_false g1
          by_cases g2 : x ≥ (m : Int)
          · have e2 : decide (x ≥ (m : Int)) = true := decide_eq_true g2
            go_wp2_with fail
            refine (awakeC_any wr (HS.out.later hb.out)).mono ?_
            rintro e w9 ⟨rfl, hb9⟩
            have HB9 := hid (hb.out.trans (hb9.mono hb.out.size))
            clear hb9
            go_wp2_with fail
            go_ret
            exact ⟨rfl, HB9.out⟩
          have e2 : decide (x ≥ (m : Int)) = false := decide_eq_false g2
          obtain ⟨n, rfl⟩ : ∃ n : Nat, x = n := ⟨x.toNat, by omega⟩
          have hnm : n < m := by omega
          have z0 : wr.cell? ⟨w.heap.size, n, none⟩ = some (.bool (decide (n ∈ os))) := by rw [World.ownsRow.cellAt hs.out n (by omega)]; exact seen_at hnm
          by_cases g3 : n ∈ os
          · rw [decide_eq_true g3] at z0
            go_wp2_with fail
            refine (awakeC_any wr (HS.out.later hb.out)).mono ?_
            rintro e w9 ⟨rfl, hb9⟩
            have HB9 := hid (hb.out.trans (hb9.mono hb.out.size))
            clear hb9
            go_wp2_with fail
            go_ret
            exact ⟨rfl, HB9.out⟩
          rw [decide_eq_false g3] at z0
          have G3 := hid g3
          clear g1 g2 g3
          obtain ⟨hs2, hg2⟩ := World.ownsRow.stored hs.out n (.bool true)
          rw [seen_set hnm] at hs2
          have ho2 := hid (own_other (v' := .slice (some ⟨w.heap.size, 0, none⟩) m m) ho.out hg2 hs.out (by decide))
          have hs2' := hid hs2
          have hb2 := hid (hb.out.setCell (p := ⟨w.heap.size, n, none⟩) (Nat.le_refl _) (.bool true))
          have hfz : wr.frozen? ⟨w.heap.size, n, none⟩ = false := by
            obtain ⟨cur, h1⟩ := own_heap hs.out
            exact frozen_heap h1 n
          have hsz : (wr.setCell ⟨w.heap.size, n, none⟩ (.bool true)).heap.size = wr.heap.size := by simp [World.setCell]
          have hbs := hid hb.out.size
          have a1 : m + i + 1 ≤ maxLen := by unfold maxLen; omega
          have a2 : (m + i + 1) * 120 ≤ 140737488355328 := by omega
          have a3 : w.heap.size ≤ wr.heap.size + 1 := by have := hbs.out; omega
          have nw : Hid (((wr.setCell ⟨w.heap.size, n, none⟩ (.bool true)).alloc (.cells #[.int .i64 1, .int .u64 ((n : Int) + 1), .int .u64 ((n : Int) + 1), .int .u64 0, .int .i64 0, .int .u64 0, .int .u64 0, .int .u64 0, .int .u64 0, .slice none 0 0, .slice none 0 0] 38)).heap[wr.heap.size]? = some (.cells #[.int .i64 1, .int .u64 ((n : Int) + 1), .int .u64 ((n : Int) + 1), .int .u64 0, .int .i64 0, .int .u64 0, .int .u64 0, .int .u64 0, .int .u64 0, .slice none 0 0, .slice none 0 0] 38)) := hid (by rw [← hsz]; exact heap_last _ _)
          clear hs2 hg2 hsz
          go_wp2_with (at_builtin; refine wpList_append_lies _ rfl (.tmp 85) (.tmp 93) 22 rfl w.heap.size 38 i0 _ 11 120 Tryd.underlying22 hi0 hz0 hz1 hz2 rfl (by omega) u8 (m + i) rows.flatten rfl (ho2.out.alloc _) ⟨wr.heap.size, 0, none⟩ 1 1 [.int .i64 1, .int .u64 ((n : Int) + 1), .int .u64 ((n : Int) + 1), .int .u64 0, .int .i64 0, .int .u64 0, .int .u64 0, .int .u64 0, .int .u64 0, .slice none 0 0, .slice none 0 0] rfl rfl (World.news_of_block (cs := #[.int .i64 1, .int .u64 ((n : Int) + 1), .int .u64 ((n : Int) + 1), .int .u64 0, .int .i64 0, .int .u64 0, .int .u64 0, .int .u64 0, .int .u64 0, .slice none 0 0, .slice none 0 0]) (t := 38) (fr := (0, 0)) nw.out) (by simp [Value.oneCell']) (by omega) a1 a2 (by simp; exact a3) (wr.heap.size + 1) (by simp) ?_; intro gg cap w4 hown1 hgrow hat hlt1; have OW := hid hown1; have GR := hid hgrow; clear hown1 hgrow hat)
          go_roundg (m - (i + 1))
          case measure => exact hmeas
          case rel =>
            have hkz : ∀ d ∈ (List.range m).map (dl at_) ++ os.map ak, d.k = kz := fun d hd => by
              rcases List.mem_append.1 hd with hd | hd
              · obtain ⟨j, _, rfl⟩ := List.mem_map.1 hd
                rfl
              · obtain ⟨j, _, rfl⟩ := List.mem_map.1 hd
                rfl
            refine ⟨i + 1, os ++ [n], rows ++ [encD (ak n) none none 0 0], rfl, hid ⟨rfl, hlt, by rw [List.length_append, hgk.out.2.2]; rfl⟩, hid ⟨?_, ?_⟩, hid ?_, hid ?_, hid ?_, hid ?_⟩
            · exact List.nodup_append.2 ⟨hnd.out.1, by simp, fun a ha b hb e => by rw [List.mem_singleton.1 hb] at e; exact G3.out (e ▸ ha)⟩
            · intro y hy
              rcases List.mem_append.1 hy with hy | hy
              · exact hnd.out.2 y hy
              · rw [List.mem_singleton.1 hy]; exact hnm
            · rw [List.map_append, ← List.append_assoc]
              exact DsRow.snoc (hrow.out.bare hkz) (ak n) none none 0 0 (ws_nil _ _) (rs_nil _ _)
            · rw [flat_snoc]
              exact OW.out
            · exact own_other (hs2'.out.alloc _) GR.out (ho2.out.alloc _) (by decide)
            · exact below_app hb2.out (by simp [World.setCell]; exact hbs.out) ho2.out (Nat.le_refl _) GR.out
        · have him : m = i := by have := hgk.out; omega
          have hol := hgk.out.2.2
          subst him
          obtain ⟨A8, c8, rfl, hc8, hds⟩ := ds_of_own hrow.out (by simp [hol]) ho.out
          have HDS := hid hds
          have HND := hid hnd.out
          have HOL := hid hol
          have HB := hid hb.out
          have HSr := hid (HS.out.later hb.out)
          clear hds hnd hol hb hs ho hrow hgk hlt hc8
          have hdl : Hid (((List.range m).map (dl at_) ++ os.map ak).length = m + m) := hid (by simp [HOL.out])
          have hc := cons_st 2 ((List.range m).map (dl at_) ++ os.map ak) A8 c8 wr (Or.inr (Or.inr rfl)) HSr.out HDS.out (fun d hd => by
            rcases List.mem_append.1 hd with hd | hd
            · obtain ⟨j, hj, rfl⟩ := List.mem_map.1 hd
              have := List.mem_range.1 hj
              exact ⟨Or.inl rfl, ⟨by show (0 : Int) ≤ (j : Int) + 1; omega, by show (j : Int) + 1 ≤ 65536; omega⟩, ⟨by show (0 : Int) ≤ (j : Int) + 1; omega, by show (j : Int) + 1 ≤ 65536; omega⟩, fun _ => ⟨by show (1 : Int) ≤ 1; decide, by show (1 : Int) ≤ 100000; decide⟩, snd0⟩
            · obtain ⟨j, hj, rfl⟩ := List.mem_map.1 hd
              have := HND.out.2 j hj
              exact ⟨Or.inr (Or.inl rfl), ⟨by show (0 : Int) ≤ (j : Int) + 1; omega, by show (j : Int) + 1 ≤ 65536; omega⟩, ⟨by show (0 : Int) ≤ (j : Int) + 1; omega, by show (j : Int) + 1 ≤ 65536; omega⟩, fun h => absurd h (by show ¬ ((1 : Int) = 0); decide), snd0⟩) (by rw [hdl.out]; omega)
          rw [hdl.out] at hc
          go_wp2_with fail
          refine hc.mono ?_
          clear hc
          rintro e w9 ⟨v1, v2, rfl, hp⟩
          obtain ⟨oks, ks, k, B1, B2, p1, p2, htr, rfl, rfl, q1, q2, hks, hst, hb9⟩ := hp.view
          obtain ⟨⟨U, f, hA, hkF⟩, hok1, hall⟩ := ack_tr (by omega) m os HOL.out HND.out.1 HND.out.2 htr
          have hUn : U = [] := List.eq_nil_of_length_eq_zero (by have := hA.l; have := HOL.out; omega)
          have hfm : f = m := hA.e hUn
          obtain ⟨hlo, hlk⟩ := htr.len
          rw [hdl.out] at hlo hlk q1 q2
          simp only [hdl.out]
          have HKS := hid hks
          have HST := hid hst
          have HOK := hid hok1
          have HALL := hid hall
          have HLO := hid hlo
          have HLK := hid hlk
          have HB9 := hid (HB.out.trans (hb9.mono HB.out.size))
          have HSr9 := hid (HSr.out.later hb9)
          have HLAST : Hid (ks[m + m - 1]? = some (kF m m at_ [])) := hid (by
            obtain ⟨o0, k0, kk, ok, _, e2, h0, _⟩ := Tr.last (ds := ((List.range m).map (dl at_) ++ os.map ak).dropLast) (d := ((List.range m).map (dl at_) ++ os.map ak).getLast (by intro h; have := congrArg List.length h; rw [hdl.out] at this; simp at this; omega)) (by rw [List.dropLast_concat_getLast]; exact htr)
            have hk0 : k0.length = m + m - 1 := by have := h0.len.2; rw [List.length_dropLast, hdl.out] at this; exact this
            rw [e2, List.getElem?_append_right (by rw [hk0]; exact Nat.le_refl _), hk0, hkF, hUn, hfm]
            simp)
          clear hp hks hst htr hA hkF hok1 hall hlo hlk hb9 HB HSr HDS hUn hfm hdl
          go_wp2_with fail
          generalize hN : m + m = N at *
          have hN2 := hid hN
          have hN24 : N ≤ 24 := by omega
          clear hN
          go_loopg [14] N (fun gk v14 wr => ∃ (i : Nat), v14 = .int .i64 (i : Nat) ∧ Hid (gk = N - i ∧ i ≤ N) ∧ Hid (Below w9.heap.size w9 wr))
          case atStart => exact ⟨0, rfl, hid ⟨rfl, Nat.zero_le _⟩, hid (Below.refl _ _)⟩
          case round =>
            obtain ⟨i, rfl, hgk, hb⟩ := hrel
            by_cases hlt : i < N
            · have hmeas : N - (i + 1) < gk := by have := hgk.out; omega
              obtain ⟨ad1, rfl, x0⟩ := HKS.out i (by rw [HLO.out]; exact hlt)
              have y0 : wr.cell? (ad1.add i) = some (.int .i64 0) := by rw [hb.out.cell (World.block_lt_of_cell? w9 _ x0), x0, HOK.out _ (List.getElem_mem _)]; rfl
              obtain ⟨ad2, A1, A2, q3, q4, rfl, hw, hr, z0, z1, z2, z3, z4, z5, l1, l2⟩ := (HST.out.later hb.out) i (by rw [HLK.out]; exact hlt)
              have hik : i < ks.length := by rw [HLK.out]; exact hlt
              obtain ⟨hS, ha1, ha2, ha3⟩ := HALL.out i _ (List.getElem?_eq_getElem hik)
              generalize ks[i] = K at hw hr z0 z1 z2 z3 z4 z5 l1 l2 hS ha1 ha2 ha3
              have hwl : K.ws.length ≤ 24 := by
                have := hN2.out
                by_cases h : i < m
                · rw [ha1 h]; omega
                · rw [ha2 (by omega)]; omega
              have hfc : decide (K.fc > K.dc) = false := decide_eq_false (by have := hS.1; omega)
              have y0a : (wr.alloc (.cells #[.int .u64 K.dc, .int .u64 K.ds, .int .u64 K.fc, .int .u64 K.fs, .slice A1 K.ws.length q3, .slice A2 K.rs.length q4] 35)).cell? (ad1.add i) = some (.int .i64 0) := (World.cell?_alloc_lt wr _ _ (World.block_lt_of_cell? wr _ y0)).trans y0
              have HBA := hid (hb.out.alloc hb.out.size (.cells #[.int .u64 K.dc, .int .u64 K.ds, .int .u64 K.fc, .int .u64 K.fs, .slice A1 K.ws.length q3, .slice A2 K.rs.length q4] 35))
              have HBR := hid ((Below.refl wr.heap.size wr).alloc (Nat.le_refl _) (.cells #[.int .u64 K.dc, .int .u64 K.ds, .int .u64 K.fc, .int .u64 K.fs, .slice A1 K.ws.length q3, .slice A2 K.rs.length q4] 35))
              have HCS := hid (sound_any K A1 A2 q3 q4 _ (hw.later HBR.out) (hr.later HBR.out) (by omega) (by rw [ha3]; decide))
              have HSO := hid hS
              have HA1 := hid ha1
              have HA2 := hid ha2
              have HL := hid (And.intro l1 l2)
              clear x0 hw hr hS ha3 l1 l2
              by_cases hi : i < m
              · have e3 : ((K.ws.length : Int) != (i : Int) + 1) = false := by rw [ha1 hi]; simp
                have hgd : decide ((i : Int) ≥ (m : Int)) = false := decide_eq_false (by omega)
                have hld : decide ((i : Int) < (m : Int)) = true := decide_eq_true (by omega)
                clear ha1 ha2
                go_wp2_with fail
                refine HCS.out.mono ?_
                rintro e w4 hsp
                obtain ⟨b, rfl, hbb, hb4⟩ := hsp
                obtain rfl : b = true := hbb.2 HSO.out
                have HB4 := hid (HBA.out.trans (hb4.mono HBA.out.size))
                clear hbb hb4
                go_wp2_with fail
                go_roundg (N - (i + 1))
                case measure => exact hmeas
                case rel => exact ⟨i + 1, rfl, hid ⟨rfl, hlt⟩, HB4⟩
              · have e3 : ((K.ws.length : Int) != (2 * (m : Int) - 1 - (i : Int))) = false := by rw [ha2 (by omega)]; have := hN2.out; simp; omega
                have hgd : decide ((i : Int) ≥ (m : Int)) = true := decide_eq_true (by omega)
                have hld : decide ((i : Int) < (m : Int)) = false := decide_eq_false (by omega)
                clear ha1 ha2
                go_wp2_with fail
                refine HCS.out.mono ?_
                rintro e w4 hsp
                obtain ⟨b, rfl, hbb, hb4⟩ := hsp
                obtain rfl : b = true := hbb.2 HSO.out
                have HB4 := hid (HBA.out.trans (hb4.mono HBA.out.size))
                clear hbb hb4
                go_wp2_with fail
                go_roundg (N - (i + 1))
                case measure => exact hmeas
                case rel => exact ⟨i + 1, rfl, hid ⟨rfl, hlt⟩, HB4⟩
            · have hiN : i = N := by have := hgk.out; omega
              subst hiN
              obtain ⟨P, hP⟩ : ∃ P : Nat, i = P + 1 := ⟨i - 1, by have := hN2.out; omega⟩
              have hPw : IntKind.i64.wrap ((i : Int) - 1) = (P : Int) := by rw [IntKind.wrap_i64]; omega
              have hPd : decide ((P : Int) < (i : Int)) = true := decide_eq_true (by omega)
              have hPl : P < i := by omega
              have hPe : Hid (i - 1 = P) := hid (by omega)
              obtain ⟨ad2, A1, A2, q3, q4, rfl, hw, hr, z0, z1, z2, z3, z4, z5, l1, l2⟩ := (HST.out.later hb.out) P (by rw [HLK.out]; exact hPl)
              have hKe : ks[P]'(by rw [HLK.out]; exact hPl) = kF m m at_ [] := by
                have h1 := HLAST.out
                rw [hPe.out] at h1
                obtain ⟨_, h2⟩ := List.getElem?_eq_some_iff.1 h1
                exact h2
              rw [hKe] at z0 z1 z2 z3 z4 z5
              clear hw hr l1 l2 hP hlt hKe
              go_wp2_with fail
              refine (awakeC_any _ (HSr9.out.later (hb.out.alloc hb.out.size _))).mono ?_
              rintro e w10 ⟨rfl, hb10⟩
              have HB10 := hid ((HB9.out.trans ((hb.out.alloc hb.out.size _).mono HB9.out.size)).trans (hb10.mono (Nat.le_trans HB9.out.size (hb.out.alloc hb.out.size _).size)))
              clear hb10
              go_wp2_with fail
              go_ret
              exact ⟨rfl, HB10.out⟩
end Go.Proofs.YtpbhblppehkifaaDoor
