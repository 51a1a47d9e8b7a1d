/- The reference's run. -/
import Derived.Test.YtpbhblppehkifaaDoorDidS
import Derived.Test.YtpbhblppehkifaaDoorSpF
import Derived.Test.YtpbhblppehkifaaDoorPairX
import Derived.Test.YtpbhblppehkifaaDoorConsA
import Derived.Deep.AppendLies
import Derived.StillTailTactics
namespace Go.Proofs.YtpbhblppehkifaaDoor
open Go Go.RowKit Con Go.Proofs.YtpbhblppehkifaaDoorW.PrintWords Go.Proofs.YtpbhblppehkifaaDoorW.PrintLast
set_option linter.unusedVariables false
set_option linter.unusedSimpArgs false

theorem WsO.gen {w w' : World} {B : Nat} {A : Option Addr} {l : List (Int × Int × Int)} (h : WsO w B A l) (hk : ∀ g, g < w.heap.size → (g < B ∨ ∃ cs, w.heap[g]? = some (.cells cs 49 (0, 0))) → w'.heap[g]? = w.heap[g]?) : WsO w' B A l := by
  by_cases hl : l = []
  · subst hl
    exact ⟨fun i hi => absurd hi (Nat.not_lt_zero _), fun h => absurd rfl h⟩
  obtain ⟨ad, rfl, hp⟩ := h.2 hl
  obtain ⟨ad0, e0, x00, _⟩ := h.1 0 (List.length_pos_iff.2 hl)
  cases e0
  have hlt : ad.block < w.heap.size := by have := World.block_lt_of_cell? w _ x00; simpa [Addr.add] using this
  have hne : w'.heap[ad.block]? = w.heap[ad.block]? := hk _ hlt hp
  have hbl : ∀ j, (ad.add j).block = ad.block := fun j => by unfold Addr.add; split <;> rfl
  refine ⟨fun i hi => ?_, fun _ => ⟨ad, rfl, hp.imp id fun ⟨cs, hcs⟩ => ⟨cs, hne.trans hcs⟩⟩⟩
  obtain ⟨ad', e, x0, x1, x2⟩ := h.1 i hi
  cases e
  exact ⟨ad, rfl, (same_cell (by rw [hbl]; exact hne)).trans x0, (same_cell (by simp only [hbl]; exact hne)).trans x1, (same_cell (by simp only [hbl]; exact hne)).trans x2⟩
theorem RsO.gen {w w' : World} {B : Nat} {A : Option Addr} {l : List (Int × Int)} (h : RsO w B A l) (hk : ∀ g, g < w.heap.size → (g < B ∨ ∃ cs, w.heap[g]? = some (.cells cs 64 (0, 0))) → w'.heap[g]? = w.heap[g]?) : RsO w' B A l := by
  by_cases hl : l = []
  · subst hl
    exact ⟨fun i hi => absurd hi (Nat.not_lt_zero _), fun h => absurd rfl h⟩
  obtain ⟨ad, rfl, hp⟩ := h.2 hl
  obtain ⟨ad0, e0, x00, _⟩ := h.1 0 (List.length_pos_iff.2 hl)
  cases e0
  have hlt : ad.block < w.heap.size := by have := World.block_lt_of_cell? w _ x00; simpa [Addr.add] using this
  have hne : w'.heap[ad.block]? = w.heap[ad.block]? := hk _ hlt hp
  have hbl : ∀ j, (ad.add j).block = ad.block := fun j => by unfold Addr.add; split <;> rfl
  refine ⟨fun i hi => ?_, fun _ => ⟨ad, rfl, hp.imp id fun ⟨cs, hcs⟩ => ⟨cs, hne.trans hcs⟩⟩⟩
  obtain ⟨ad', e, x0, x1⟩ := h.1 i hi
  cases e
  exact ⟨ad, rfl, (same_cell (by rw [hbl]; exact hne)).trans x0, (same_cell (by simp only [hbl]; exact hne)).trans x1⟩
/-- A block of another kind is written. -/
theorem KO.gen {w w' : World} {B n : Nat} {A1 A2 : Option Addr} {q1 q2 : Nat} {k : Kp} (h : KO w B n A1 A2 q1 q2 k) (r : Option Nat) (hr : ∀ g, r = some g → B ≤ g ∧ ∃ cs E f, w.heap[g]? = some (.cells cs E f) ∧ E ≠ 49 ∧ E ≠ 64) (hk : ∀ g, g < w.heap.size → some g ≠ r → w'.heap[g]? = w.heap[g]?) : KO w' B n A1 A2 q1 q2 k := by
  refine ⟨h.1.gen fun g hg hp => hk g hg fun e => ?_, h.2.1.gen fun g hg hp => hk g hg fun e => ?_, h.2.2⟩
  · obtain ⟨h1, cs, E, f, h2, h3, _⟩ := hr g e.symm
    rcases hp with hp | ⟨cs', h4⟩
    · omega
    · rw [h2] at h4
      cases h4
      exact h3 rfl
  · obtain ⟨h1, cs, E, f, h2, _, h3⟩ := hr g e.symm
    rcases hp with hp | ⟨cs', h4⟩
    · omega
    · rw [h2] at h4
      cases h4
      exact h3 rfl
def encR (k : Kp) (A1 A2 : Option Addr) (q1 q2 : Nat) : List Value := [.int .u64 k.dc, .int .u64 k.ds, .int .u64 k.fc, .int .u64 k.fs, .slice A1 k.ws.length q1, .slice A2 k.rs.length q2]
/-- States row by row. -/
def StRow (w : World) (B n : Nat) (rows : List (List Value)) (ks : List Kp) : Prop := rows.length = ks.length ∧ ∀ i (h : i < ks.length), ∃ A1 A2 q1 q2, rows[i]? = some (encR ks[i] A1 A2 q1 q2) ∧ KO w B n A1 A2 q1 q2 ks[i]
theorem StRow.mono {w w' : World} {B n n' : Nat} {rows : List (List Value)} {ks : List Kp} (h : StRow w B n rows ks) (hm : ∀ A1 A2 q1 q2 k, KO w B n A1 A2 q1 q2 k → KO w' B n' A1 A2 q1 q2 k) : StRow w' B n' rows ks := ⟨h.1, fun i hi => by
  obtain ⟨A1, A2, q1, q2, e, hk⟩ := h.2 i hi
  exact ⟨A1, A2, q1, q2, e, hm _ _ _ _ _ hk⟩⟩
theorem StRow.nil (w : World) (B n : Nat) : StRow w B n [] [] := ⟨rfl, fun i h => absurd h (Nat.not_lt_zero _)⟩
theorem StRow.snoc {w : World} {B n : Nat} {rows : List (List Value)} {ks : List Kp} (h : StRow w B n rows ks) (k : Kp) (A1 A2 : Option Addr) (q1 q2 : Nat) (hk : KO w B n A1 A2 q1 q2 k) : StRow w B n (rows ++ [encR k A1 A2 q1 q2]) (ks ++ [k]) := by
  refine ⟨by simp [h.1], fun i hi => ?_⟩
  by_cases hlt : i < ks.length
  · obtain ⟨B1, B2, p1, p2, e, hk'⟩ := h.2 i hlt
    rw [List.getElem_append_left hlt]
    exact ⟨B1, B2, p1, p2, by rw [List.getElem?_append_left (by have := h.1; omega)]; exact e, hk'⟩
  · have hi' : i = ks.length := by simp at hi; omega
    subst hi'
    refine ⟨A1, A2, q1, q2, ?_, ?_⟩
    · have e : (ks ++ [k])[ks.length] = k := by simp
      rw [e, List.getElem?_append_right (by rw [h.1]; exact Nat.le_refl _), h.1]
      simp
    · simpa using hk
theorem StRow.len {w : World} {B n : Nat} {rows : List (List Value)} {ks : List Kp} (h : StRow w B n rows ks) : ∀ r ∈ rows, r.length = 6 := fun r hr => by
  obtain ⟨i, hi, rfl⟩ := List.getElem_of_mem hr
  obtain ⟨A1, A2, q1, q2, e, _⟩ := h.2 i (by have := h.1; omega)
  rw [List.getElem?_eq_getElem hi] at e
  rw [Option.some.inj e]
  rfl
theorem flat6_len : ∀ {rows : List (List Value)}, (∀ r ∈ rows, r.length = 6) → rows.flatten.length = rows.length * 6
  | [], _ => rfl
  | r :: rows, h => by
    rw [List.flatten_cons, List.length_append, flat6_len (fun x hx => h x (List.mem_cons_of_mem _ hx)), h r (by simp), List.length_cons]
    omega
theorem flat6_at : ∀ {rows : List (List Value)}, (∀ r ∈ rows, r.length = 6) → ∀ (i j : Nat) (r : List Value), rows[i]? = some r → j < 6 → rows.flatten[i * 6 + j]? = r[j]?
  | [], _, i, j, r, h, _ => by simp at h
  | r0 :: rows, hl, 0, j, r, h, hj => by
    have e : r0 = r := by simpa using h
    subst e
    rw [List.flatten_cons, List.getElem?_append_left (by rw [hl r0 (by simp)]; omega)]
    simp
  | r0 :: rows, hl, i + 1, j, r, h, hj => by
    have ih := flat6_at (fun x hx => hl x (List.mem_cons_of_mem _ hx)) i j r (by simpa using h) hj
    have h0 := hl r0 (by simp)
    rw [List.flatten_cons, List.getElem?_append_right (by rw [h0]; omega), h0]
    have e : (i + 1) * 6 + j - 6 = i * 6 + j := by omega
    rw [e, ih]
theorem st_of_own {w : World} {B B' n m : Nat} {v : Value} {rows : List (List Value)} {ks : List Kp} (hr : StRow w B m rows ks) (hn : ks.length = n) (h : w.ownsRow B' 35 6 v n rows.flatten) : ∃ A c, v = .slice A n c ∧ n ≤ c ∧ StAt w A ks := by
  obtain ⟨A, c, rfl, hc, hh⟩ := own_cap h
  refine ⟨A, c, rfl, hc, fun i hi => ?_⟩
  obtain ⟨A1, A2, q1, q2, e, hk⟩ := hr.2 i hi
  have f : ∀ j u, j < 6 → (encR ks[i] A1 A2 q1 q2)[j]? = some u → ∃ g, A = some ⟨g, 0, none⟩ ∧ w.cell? ⟨g, i * 6 + j, none⟩ = some u := fun j u hj hu => hh (i * 6 + j) u (by rw [flat6_at hr.len i j _ e hj]; exact hu)
  obtain ⟨g, rfl, h0⟩ := f 0 _ (by omega) rfl
  have f' : ∀ j u, j < 6 → (encR ks[i] A1 A2 q1 q2)[j]? = some u → w.cell? ⟨g, i * 6 + j, none⟩ = some u := fun j u hj hu => by
    obtain ⟨g', e1, h1⟩ := f j u hj hu
    cases e1
    exact h1
  refine ⟨_, A1, A2, q1, q2, rfl, hk.1.1, hk.2.1.1, ?_, ?_, ?_, ?_, ?_, ?_, hk.2.2.1, hk.2.2.2.1⟩ <;> rw [add_g]
  · exact h0
  · exact f' 1 _ (by omega) rfl
  · exact f' 2 _ (by omega) rfl
  · exact f' 3 _ (by omega) rfl
  · exact f' 4 _ (by omega) rfl
  · exact f' 5 _ (by omega) rfl
/-- The deeds as they lie in memory, their lists within their room. -/
def DsAtC (w : World) (A : Option Addr) (ds : List Dd) : Prop := ∀ i (h : i < ds.length), ∃ ad A1 A2 q1 q2, A = some ad ∧ WsAt w A1 ds[i].k.ws ∧ RsAt w A2 ds[i].k.rs ∧
  w.cell? (ad.add (i * 11)) = some (.int .i64 ds[i].op) ∧
  w.cell? ⟨(ad.add (i * 11)).block, (ad.add (i * 11)).off + 1, none⟩ = some (.int .u64 ds[i].c) ∧
  w.cell? ⟨(ad.add (i * 11)).block, (ad.add (i * 11)).off + 2, none⟩ = some (.int .u64 ds[i].s) ∧
  w.cell? ⟨(ad.add (i * 11)).block, (ad.add (i * 11)).off + 3, none⟩ = some (.int .u64 ds[i].t) ∧
  w.cell? ⟨(ad.add (i * 11)).block, (ad.add (i * 11)).off + 4, none⟩ = some (.int .i64 ds[i].at_) ∧
  w.cell? ⟨(ad.add (i * 11)).block, (ad.add (i * 11)).off + 5, none⟩ = some (.int .u64 ds[i].k.dc) ∧
  w.cell? ⟨(ad.add (i * 11)).block, (ad.add (i * 11)).off + 6, none⟩ = some (.int .u64 ds[i].k.ds) ∧
  w.cell? ⟨(ad.add (i * 11)).block, (ad.add (i * 11)).off + 7, none⟩ = some (.int .u64 ds[i].k.fc) ∧
  w.cell? ⟨(ad.add (i * 11)).block, (ad.add (i * 11)).off + 8, none⟩ = some (.int .u64 ds[i].k.fs) ∧
  w.cell? ⟨(ad.add (i * 11)).block, (ad.add (i * 11)).off + 9, none⟩ = some (.slice A1 ds[i].k.ws.length q1) ∧
  w.cell? ⟨(ad.add (i * 11)).block, (ad.add (i * 11)).off + 10, none⟩ = some (.slice A2 ds[i].k.rs.length q2) ∧ ds[i].k.ws.length ≤ q1 ∧ ds[i].k.rs.length ≤ q2
theorem DsAtC.later {w w' : World} {A : Option Addr} {ds : List Dd} (h : DsAtC w A ds) (hb : Below w.heap.size w w') : DsAtC w' A ds := fun i hi => by
  obtain ⟨ad, A1, A2, q1, q2, e, hw, hr, x0, x1, x2, x3, x4, x5, x6, x7, x8, x9, x10, c1, c2⟩ := h i hi
  have f : ∀ (p : Addr) (v : Value), w.cell? p = some v → w'.cell? p = some v := fun p v hp => by rw [hb.cell (World.block_lt_of_cell? w _ hp)]; exact hp
  exact ⟨ad, A1, A2, q1, q2, e, hw.later hb, hr.later hb, f _ _ x0, f _ _ x1, f _ _ x2, f _ _ x3, f _ _ x4, f _ _ x5, f _ _ x6, f _ _ x7, f _ _ x8, f _ _ x9, f _ _ x10, c1, c2⟩
/-- What is read through the answer's world lies below. -/
theorem wsO_low {w w' : World} {A : Option Addr} {l : List (Int × Int × Int)} (h : WsAt w A l) (hb : Below w.heap.size w w') : WsO w' w.heap.size A l := ⟨h.later hb, fun hl => by
  obtain ⟨ad, e, x0, _⟩ := h 0 (List.length_pos_iff.2 hl)
  refine ⟨ad, e, Or.inl ?_⟩
  have := World.block_lt_of_cell? w _ x0
  simpa [Addr.add] using this⟩
theorem rsO_low {w w' : World} {A : Option Addr} {l : List (Int × Int)} (h : RsAt w A l) (hb : Below w.heap.size w w') : RsO w' w.heap.size A l := ⟨h.later hb, fun hl => by
  obtain ⟨ad, e, x0, _⟩ := h 0 (List.length_pos_iff.2 hl)
  refine ⟨ad, e, Or.inl ?_⟩
  have := World.block_lt_of_cell? w _ x0
  simpa [Addr.add] using this⟩
/-- What the reference's run comes to. -/
def SpP (ack : Int) (ds : List Dd) (w : World) (e : Ending) (w' : World) : Prop := ∃ (oks : List Bool) (ks : List Kp) (k : Kp) (A1 A2 : Option Addr) (c1 c2 : Nat), e = .returned (.tuple #[.slice A1 ds.length c1, .slice A2 ds.length c2]) ∧ Ts ack ds oks ks k ∧ ds.length ≤ c1 ∧ ds.length ≤ c2 ∧ KsAt w' A1 oks ∧ StAt w' A2 ks ∧ (∀ x ∈ ks, x.ws.length < 10000 ∧ x.rs.length < 10000) ∧ Below w.heap.size w w'

set_option maxRecDepth 100000 in
set_option maxHeartbeats 8000000 in
theorem spec_any (ack : Int) (ds : List Dd) (A : Option Addr) (qd : Nat) (w : World) (hA : AckC w.heap.size) (hd : DsAtC w A ds) (hp : ∀ d ∈ ds, PairOk d) (hl : ds.length ≤ 24) :
    Calls Tryd.prog 10 #[.int .i64 ack, .slice A ds.length qd] w (SpP ack ds w) := by
  have HD := hid hd
  have HP := hid hp
  have HAC := hid hA
  clear hd hp hA
  obtain ⟨i0, hi0, hz0, hz1, hz2⟩ := info_parts infoI
  obtain ⟨i1, hj0, hj1, hj2, hj3⟩ := info_parts infoK
  go_enter Tryd.func10, Tryd.ntmps10
  go_wp2_with fail
  have hz0' : Hid ((w.alloc (.cells #[.int .u64 0, .int .u64 0, .int .u64 0, .int .u64 0, .slice none 0 0, .slice none 0 0] 35)).heap[w.heap.size]? = some (.cells #[.int .u64 0, .int .u64 0, .int .u64 0, .int .u64 0, .slice none 0 0, .slice none 0 0] 35 (0, 0))) := hid (heap_last w _)
  go_loopg [7, 8, 9, 10] ds.length (fun gk v7 v8 v9 _ wr => ∃ (i : Nat) (oks : List Bool) (ks : List Kp) (rows : List (List Value)) (k : Kp) (A1 A2 : Option Addr) (q1 q2 : Nat), v9 = .int .i64 (i : Nat) ∧ Hid (gk = ds.length - i ∧ i ≤ ds.length) ∧ Hid (Ts ack (ds.take i) oks ks k) ∧ Hid (KO wr w.heap.size (100 + i) A1 A2 q1 q2 k) ∧
    Hid (wr.heap[w.heap.size]? = some (.cells #[.int .u64 k.dc, .int .u64 k.ds, .int .u64 k.fc, .int .u64 k.fs, .slice A1 k.ws.length q1, .slice A2 k.rs.length q2] 35 (0, 0))) ∧ Hid (wr.ownsRow (w.heap.size + 1) 3 1 v7 i (oks.map okV)) ∧ Hid (wr.ownsRow (w.heap.size + 1) 35 6 v8 i rows.flatten) ∧ Hid (StRow wr w.heap.size (100 + i) rows ks) ∧ Hid (Below w.heap.size w wr))
  case atStart => exact ⟨0, [], [], [], kp0, none, none, 0, 0, rfl, hid ⟨rfl, Nat.zero_le _⟩, hid Ts.nil, hid ⟨⟨fun i h => absurd h (Nat.not_lt_zero _), fun h => absurd rfl h⟩, ⟨fun i h => absurd h (Nat.not_lt_zero _), fun h => absurd rfl h⟩, Nat.le_refl _, Nat.le_refl _, Nat.zero_le _, Nat.zero_le _⟩, hz0', hid (World.ownsRow_nil _ _ _ _), hid (World.ownsRow_nil _ _ _ _), hid (StRow.nil _ _ _), hid ((Below.refl _ _).alloc (Nat.le_refl _) _)⟩
  case round =>
    clear hz0'
    obtain ⟨i, oks, ks, rows, k, A1, A2, q1, q2, rfl, hgk, hts, hko, hbox, ho, ht, hrow, hb⟩ := hrel
    by_cases hlt : i < ds.length
    · have hmeas : ds.length - (i + 1) < gk := by have := hgk.out; omega
      have hPO := hid (HP.out ds[i] (List.getElem_mem hlt))
      have hlo : Hid (oks.length = i ∧ ks.length = i) := hid (by have := hts.out.len; rw [List.length_take] at this; omega)
      have hi24 : i < 24 := by omega
      obtain ⟨ad, _, _, _, _, rfl, _⟩ := HD.out i hlt
      obtain ⟨b30, b31, b32, b33, b34, b35⟩ := cells6 hbox.out
      obtain ⟨ad', D1, D2, r1, r2, e', dw, dr, y0, y1, y2, y3, y4, y5, y6, y7, y8, y9, y10, c1, c2⟩ := HD.out i hlt
      cases e'
      have fx : ∀ (p : Addr) (v : Value), w.cell? p = some v → wr.cell? p = some v := fun p v hp => by rw [hb.out.cell (World.block_lt_of_cell? w _ hp)]; exact hp
      have x0 := fx _ _ y0
      have x1 := fx _ _ y1
      have x2 := fx _ _ y2
      have x3 := fx _ _ y3
      have x4 := fx _ _ y4
      have x5 := fx _ _ y5
      have x6 := fx _ _ y6
      have x7 := fx _ _ y7
      have x8 := fx _ _ y8
      have x9 := fx _ _ y9
      have x10 := fx _ _ y10
      clear fx y0 y1 y2 y3 y4 y5 y6 y7 y8 y9 y10
      go_upto_region 8 with fail
      refine start_ (n := 12) (S := fun w' => w'.cell? ⟨w.heap.size, 0, none⟩ = some (.int .u64 k.dc) ∧ w'.cell? ⟨w.heap.size, 1, none⟩ = some (.int .u64 k.ds) ∧ w'.cell? ⟨w.heap.size, 2, none⟩ = some (.int .u64 k.fc) ∧ w'.cell? ⟨w.heap.size, 3, none⟩ = some (.int .u64 k.fs) ∧ w'.cell? ⟨w.heap.size, 4, none⟩ = some (.slice A1 k.ws.length q1) ∧ w'.cell? ⟨w.heap.size, 5, none⟩ = some (.slice A2 k.rs.length q2) ∧ w'.cell? (ad.add (i * 11)) = some (.int .i64 ds[i].op) ∧ w'.cell? ⟨(ad.add (i * 11)).block, (ad.add (i * 11)).off + 1, none⟩ = some (.int .u64 ds[i].c) ∧ w'.cell? ⟨(ad.add (i * 11)).block, (ad.add (i * 11)).off + 2, none⟩ = some (.int .u64 ds[i].s) ∧ w'.cell? ⟨(ad.add (i * 11)).block, (ad.add (i * 11)).off + 3, none⟩ = some (.int .u64 ds[i].t) ∧ w'.cell? ⟨(ad.add (i * 11)).block, (ad.add (i * 11)).off + 4, none⟩ = some (.int .i64 ds[i].at_) ∧ w'.cell? ⟨(ad.add (i * 11)).block, (ad.add (i * 11)).off + 5, none⟩ = some (.int .u64 ds[i].k.dc) ∧ w'.cell? ⟨(ad.add (i * 11)).block, (ad.add (i * 11)).off + 6, none⟩ = some (.int .u64 ds[i].k.ds) ∧ w'.cell? ⟨(ad.add (i * 11)).block, (ad.add (i * 11)).off + 7, none⟩ = some (.int .u64 ds[i].k.fc) ∧ w'.cell? ⟨(ad.add (i * 11)).block, (ad.add (i * 11)).off + 8, none⟩ = some (.int .u64 ds[i].k.fs) ∧ w'.cell? ⟨(ad.add (i * 11)).block, (ad.add (i * 11)).off + 9, none⟩ = some (.slice D1 ds[i].k.ws.length r1) ∧ w'.cell? ⟨(ad.add (i * 11)).block, (ad.add (i * 11)).off + 10, none⟩ = some (.slice D2 ds[i].k.rs.length r2)) (ds := [10]) #[false, false, false, false, false, false, false, false, false, false, false, false] (by kernel_rfl) rfl rfl ⟨b30, b31, b32, b33, b34, b35, x0, x1, x2, x3, x4, x5, x6, x7, x8, x9, x10⟩ (fun hHeld => ?_)
      generalize hX : World.drew _ = W2 at hHeld ⊢
      have hh : W2.heap = wr.heap := by rw [← hX]; rfl
      have HBW : Hid (Below w.heap.size w W2) := hid (by rw [← hX]; exact hb.out.drew)
      have HX2 : Hid (W2.heap[w.heap.size]? = some (.cells #[.int .u64 k.dc, .int .u64 k.ds, .int .u64 k.fc, .int .u64 k.fs, .slice A1 k.ws.length q1, .slice A2 k.rs.length q2] 35 (0, 0))) := hid (by rw [hh]; exact hbox.out)
      have HKO2 := hid (hko.out.gen (w' := W2) none (by simp) (fun g _ _ => by rw [hh]))
      have HKD : Hid (KO W2 w.heap.size (100 + i) D1 D2 r1 r2 ds[i].k) := hid ⟨wsO_low dw HBW.out, rsO_low dr HBW.out, c1, c2, by have := hPO.out.2.2.1.1; omega, by have := hPO.out.2.2.1.2; omega⟩
      have O2 := hid (own_move ho.out (fun g _ => by rw [hh]))
      have T2 := hid (own_move ht.out (fun g _ => by rw [hh]))
      have R2 := hid (hrow.out.mono (w' := W2) (n' := 100 + i) (fun _ _ _ _ _ h => h.gen none (by simp) (fun g _ _ => by rw [hh])))
      clear hX hh b30 b31 b32 b33 b34 b35 x0 x1 x2 x3 x4 x5 x6 x7 x8 x9 x10 dw dr c1 c2 hko hbox ho ht hrow hb
      refine pure_ (i := 1) (N := (some 19)) (v := ?_) (a' := ?_) #[false, true, false, false, false, false, false, false, false, false, false, false] rfl rfl (by kernel_rfl) (fun _ _ _ h => h) (Or.inl ⟨by rfl, ?_⟩) ?_ ?_
      rotate_left
      · intro w'
        go_simp
        with_reducible rfl
      rotate_left
      · simp only [Act.put, List.setIfInBounds_toArray, List.set_cons_zero, List.set_cons_succ]
        rfl
      refine pure_ (i := 2) (N := (some 20)) (v := ?_) (a' := ?_) #[false, true, true, false, false, false, false, false, false, false, false, false] rfl rfl (by kernel_rfl) (fun _ _ _ h => h) (Or.inl ⟨by rfl, ?_⟩) ?_ ?_
      rotate_left
      · intro w'
        go_simp
        with_reducible rfl
      rotate_left
      · simp only [Act.put, List.setIfInBounds_toArray, List.set_cons_zero, List.set_cons_succ]
        rfl
      refine pure_ (i := 3) (N := (some 21)) (v := ?_) (a' := ?_) #[false, true, true, true, false, false, false, false, false, false, false, false] rfl rfl (by kernel_rfl) (fun _ _ _ h => h) (Or.inl ⟨by rfl, ?_⟩) ?_ ?_
      rotate_left
      · intro w'
        go_simp
        with_reducible rfl
      rotate_left
      · simp only [Act.put, List.setIfInBounds_toArray, List.set_cons_zero, List.set_cons_succ]
        rfl
      refine pure_ (i := 4) (N := (some 22)) (v := ?_) (a' := ?_) #[false, true, true, true, true, false, false, false, false, false, false, false] rfl rfl (by kernel_rfl) (fun _ _ _ h => h) (Or.inl ⟨by rfl, ?_⟩) ?_ ?_
      rotate_left
      · intro w'
        go_simp
        with_reducible rfl
      rotate_left
      · simp only [Act.put, List.setIfInBounds_toArray, List.set_cons_zero, List.set_cons_succ]
        rfl
      refine take_ (i := 0) (N := (some 18)) (v := ?_) (a' := ?_) #[true, true, true, true, true, false, false, false, false, false, false, false] rfl rfl (by kernel_rfl) (fun _ _ _ h => h) (Or.inl ⟨by rfl, ?_⟩) hHeld ?_ ?_
      rotate_left
      · rintro w' ⟨s0, s1, s2, s3, s4, s5, s6, s7, s8, s9, s10, s11, s12, s13, s14, s15, s16⟩
        go_simp
        with_reducible rfl
      rotate_left
      · simp only [Act.put, List.setIfInBounds_toArray, List.set_cons_zero, List.set_cons_succ]
        rfl
      refine take_ (i := 5) (N := (some 23)) (v := ?_) (a' := ?_) #[true, true, true, true, true, true, false, false, false, false, false, false] rfl rfl (by kernel_rfl) (fun _ _ _ h => h) (Or.inl ⟨by rfl, ?_⟩) hHeld ?_ ?_
      rotate_left
      · rintro w' ⟨s0, s1, s2, s3, s4, s5, s6, s7, s8, s9, s10, s11, s12, s13, s14, s15, s16⟩
        go_simp
        with_reducible rfl
      rotate_left
      · simp only [Act.put, List.setIfInBounds_toArray, List.set_cons_zero, List.set_cons_succ]
        rfl
      refine one_ (i := 6) (N := (some 24)) #[true, true, true, true, true, true, true, false, false, false, false, false] rfl rfl (by kernel_rfl) (by decide) (fun K hK => ?_)
      refine goes_ Tryd.func17 (by kernel_rfl) rfl #[.agg #[.int .u64 k.dc, .int .u64 k.ds, .int .u64 k.fc, .int .u64 k.fs, .slice A1 k.ws.length q1, .slice A2 k.rs.length q2], .int .i64 ack, .agg #[.int .i64 ds[i].op, .int .u64 ds[i].c, .int .u64 ds[i].s, .int .u64 ds[i].t, .int .i64 ds[i].at_, .int .u64 ds[i].k.dc, .int .u64 ds[i].k.ds, .int .u64 ds[i].k.fc, .int .u64 ds[i].k.fs, .slice D1 ds[i].k.ws.length r1, .slice D2 ds[i].k.rs.length r2]] (by rfl) rfl rfl (by (try simp only [List.map_toArray, List.map_cons, List.map_nil]); first | done | rfl) ?_
      refine (did_any w.heap.size (100 + i) k ds[i] ack A1 A2 D1 D2 q1 q2 r1 r2 W2 HAC.out (by have := hPO.out.1; omega) (by omega) HBW.out.size HKO2.out HKD.out).mono ?_
      rintro e w3 hdp
      generalize hr : sDid ack k ds[i] = r at hdp
      obtain ⟨kr, br⟩ := r
      obtain ⟨A3, A4, q3, q4, rfl, hko3, hb3⟩ := hdp
      obtain ⟨kv, hkv⟩ : ∃ kv : Int, okV br = .int .i64 kv := ⟨_, rfl⟩
      have HR := hid hr
      have HKV := hid hkv
      rw [hkv]
      refine ⟨_, rfl, ?_⟩
      have HB3 := hid (HBW.out.trans (hb3.mono HBW.out.size))
      have HKO3 := hid hko3
      have O3 := hid (own_below hb3 O2.out)
      have T3 := hid (own_below hb3 T2.out)
      have R3 := hid (R2.out.mono (w' := w3) (n' := 100 + i + 1) (fun _ _ _ _ _ h => h.later hb3 (by omega)))
      have h33 : w3.heap[w.heap.size]? = some (.cells #[.int .u64 k.dc, .int .u64 k.ds, .int .u64 k.fc, .int .u64 k.fs, .slice A1 k.ws.length q1, .slice A2 k.rs.length q2] 35 (0, 0)) := (hb3.block _ (Array.getElem?_eq_some_iff.1 HX2.out).1).trans HX2.out
      obtain ⟨v0, v1, v2, v3, v4, v5⟩ := cells6 h33
      have fz3 : ∀ j, w3.frozen? ⟨w.heap.size, j, none⟩ = false := fun j => frozen_heap h33 j
      have d0 := (fun (p : Addr) (v : Value) (hp : W2.cell? p = some v) => (show w3.cell? p = some v from (by rw [hb3.cell (World.block_lt_of_cell? W2 _ hp)]; exact hp)))
      obtain ⟨s0, s1, s2, s3, s4, s5, s6, s7, s8, s9, s10, s11, s12, s13, s14, s15, s16⟩ := hHeld
      have e0 := d0 _ _ s6
      have e1 := d0 _ _ s7
      have e2 := d0 _ _ s8
      have e3 := d0 _ _ s9
      have e4 := d0 _ _ s10
      have e5 := d0 _ _ s11
      have e6 := d0 _ _ s12
      have e7 := d0 _ _ s13
      have e8 := d0 _ _ s14
      have e9 := d0 _ _ s15
      have e10 := d0 _ _ s16
      have H33 := hid h33
      clear hr hkv hko3 hb3 h33 d0 s0 s1 s2 s3 s4 s5 s6 s7 s8 s9 s10 s11 s12 s13 s14 s15 s16
      refine hK.out _ _ ⟨v0, v1, v2, v3, v4, v5, e0, e1, e2, e3, e4, e5, e6, e7, e8, e9, e10⟩ (fun hHeld => ?_)
      clear hK K
      refine norm_ (a' := ?_) ?_ ?_
      rotate_left
      · show Act.put _ (some 24) _ = _
        simp only [Act.put, List.setIfInBounds_toArray, List.set_cons_zero, List.set_cons_succ]
        rfl
      refine pure_ (i := 7) (N := (some 17)) (v := ?_) (a' := ?_) #[true, true, true, true, true, true, true, true, false, false, false, false] rfl rfl (by kernel_rfl) (fun _ _ _ h => h) (Or.inl ⟨by rfl, ?_⟩) ?_ ?_
      rotate_left
      · intro w'
        go_simp
        with_reducible rfl
      rotate_left
      · simp only [Act.put, List.setIfInBounds_toArray, List.set_cons_zero, List.set_cons_succ]
        rfl
      refine pure_ (i := 8) (N := (some 25)) (v := ?_) (a' := ?_) #[true, true, true, true, true, true, true, true, true, false, false, false] rfl rfl (by kernel_rfl) (fun _ _ _ h => h) (Or.inl ⟨by rfl, ?_⟩) ?_ ?_
      rotate_left
      · intro w'
        go_simp
        with_reducible rfl
      rotate_left
      · simp only [Act.put, List.setIfInBounds_toArray, List.set_cons_zero, List.set_cons_succ]
        rfl
      refine pure_ (i := 9) (N := (some 26)) (v := ?_) (a' := ?_) #[true, true, true, true, true, true, true, true, true, true, false, false] rfl rfl (by kernel_rfl) (fun _ _ _ h => h) (Or.inl ⟨by rfl, ?_⟩) ?_ ?_
      rotate_left
      · intro w'
        go_simp
        with_reducible rfl
      rotate_left
      · simp only [Act.put, List.setIfInBounds_toArray, List.set_cons_zero, List.set_cons_succ]
        rfl
      refine last_ (i := 10) (N := none) #[true, true, true, true, true, true, true, true, true, true, true, false] rfl rfl (by kernel_rfl) (by decide) (fun K hK => ?_)
      refine skip_ (w1 := ((((((w3.setCell ⟨w.heap.size, 0, none⟩ (.int .u64 kr.dc)).setCell ⟨w.heap.size, 1, none⟩ (.int .u64 kr.ds)).setCell ⟨w.heap.size, 2, none⟩ (.int .u64 kr.fc)).setCell ⟨w.heap.size, 3, none⟩ (.int .u64 kr.fs)).setCell ⟨w.heap.size, 4, none⟩ (.slice A3 kr.ws.length q3)).setCell ⟨w.heap.size, 5, none⟩ (.slice A4 kr.rs.length q4))) (by rfl) rfl (by go_simp) ?_
      refine hK.out _ _ ?_
      clear hK K
      refine pure_ (i := 11) (N := (some 10)) (v := ?_) (a' := ?_) #[true, true, true, true, true, true, true, true, true, true, true, true] rfl rfl (by kernel_rfl) (fun _ _ _ h => h) (Or.inl ⟨by rfl, ?_⟩) ?_ ?_
      rotate_left
      · intro w'
        go_simp
        with_reducible rfl
      rotate_left
      · simp only [Act.put, List.setIfInBounds_toArray, List.set_cons_zero, List.set_cons_succ]
        rfl
      refine done_ (by kernel_rfl) ?_
      generalize hW4 : World.setCell _ _ _ = w4
      have hh4 : ∀ g, g ≠ w.heap.size → w4.heap[g]? = w3.heap[g]? := fun g hg => by rw [← hW4]; simp [World.setCell, Array.getElem?_modify, Ne.symm hg]
      have HX4 : Hid (w4.heap[w.heap.size]? = some (.cells #[.int .u64 kr.dc, .int .u64 kr.ds, .int .u64 kr.fc, .int .u64 kr.fs, .slice A3 kr.ws.length q3, .slice A4 kr.rs.length q4] 35 (0, 0))) := hid (by rw [← hW4]; exact hS (hS (hS (hS (hS (hS H33.out))))))
      have HB4 : Hid (Below w.heap.size w w4) := hid (by rw [← hW4]; exact ((((((HB3.out.setCell (Nat.le_refl _) _).setCell (Nat.le_refl _) _).setCell (Nat.le_refl _) _).setCell (Nat.le_refl _) _).setCell (Nat.le_refl _) _).setCell (Nat.le_refl _) _))
      have hr4 : ∀ g, some w.heap.size = some g → w.heap.size ≤ g ∧ ∃ cs E f, w3.heap[g]? = some (.cells cs E f) ∧ E ≠ 49 ∧ E ≠ 64 := fun g e => by cases e; exact ⟨Nat.le_refl _, _, _, _, H33.out, by decide, by decide⟩
      have O4 := hid (own_move O3.out (fun g hg => hh4 g (by have := (own_lt O3.out hg).1; omega)))
      have T4 := hid (own_move T3.out (fun g hg => hh4 g (by have := (own_lt T3.out hg).1; omega)))
      have R4 := hid (R3.out.mono (w' := w4) (n' := 100 + i + 1) (fun _ _ _ _ _ h => h.gen (some w.heap.size) hr4 (fun g _ hg => hh4 g (fun e => hg (by rw [e])))))
      have HKO4 := hid (HKO3.out.gen (w' := w4) (some w.heap.size) hr4 (fun g _ hg => hh4 g (fun e => hg (by rw [e]))))
      have L4 : Hid (w.heap.size + 1 ≤ w4.heap.size) := hid (Array.getElem?_eq_some_iff.1 HX4.out).1
      clear hW4 hh4 hr4 v0 v1 v2 v3 v4 v5 e0 e1 e2 e3 e4 e5 e6 e7 e8 e9 e10 fz3
      go_wp2_with (at_builtin; first | (refine wpList_append_lies _ rfl (.tmp 27) (.tmp 29) 25 rfl (w.heap.size + 1) 3 i0 _ 1 8 Tryd.underlying25 hi0 hz0 hz1 hz2 rfl (by omega) u7 i (oks.map okV) rfl (O4.out.alloc _) ⟨w4.heap.size, 0, none⟩ 1 1 [.int .i64 kv] rfl rfl (World.news_of_block (cs := #[.int .i64 kv]) (t := 3) (fr := (0, 0)) (heap_last w4 _)) (by simp [Value.oneCell']) (by omega) (by unfold maxLen; omega) (by omega) (by have := L4.out; simp <;> omega) (w4.heap.size + 1) (by simp) ?_; intro g5 cap5 w5 hown5 hgrow5 hat5 hlt5; have O5 := hid hown5; have T5 := hid (own_other (T4.out.alloc _) hgrow5 (O4.out.alloc (.cells #[.int .i64 kv] 3)) (by decide)); have hr5 : ∀ g, u7.ownBlock = some g → w.heap.size ≤ g ∧ ∃ cs E f, (w4.alloc (.cells #[.int .i64 kv] 3)).heap[g]? = some (.cells cs E f) ∧ E ≠ 49 ∧ E ≠ 64 := (fun g e => by obtain ⟨h1, cur, h2⟩ := own_lt (O4.out.alloc (.cells #[.int .i64 kv] 3)) e; exact ⟨by omega, cur, 3, _, h2, by decide, by decide⟩); have R5 := hid (R4.out.mono (w' := w5) (n' := 100 + i + 1) (fun _ _ _ _ _ h => (h.later ((Below.refl _ _).alloc (Nat.le_refl _) (.cells #[.int .i64 kv] 3)) (Nat.le_refl _)).gen u7.ownBlock hr5 (fun g hg hne => hgrow5.block g hg hne))); have K5 := hid ((HKO4.out.later ((Below.refl _ _).alloc (Nat.le_refl _) (.cells #[.int .i64 kv] 3)) (Nat.le_refl _)).gen u7.ownBlock hr5 (fun g hg hne => hgrow5.block g hg hne)); have HX5 := hid ((hgrow5.block w.heap.size (by have := L4.out; simp <;> omega) (fun e => by have := (own_lt (O4.out.alloc (.cells #[.int .i64 kv] 3)) e.symm).1; omega)).trans (hO HX4.out)); have B5 := hid (below_app HB4.out (by have := L4.out; omega) (own_weaken O4.out (Nat.le_succ _)) (Nat.le_refl _) hgrow5); have L5 := hid (Nat.le_trans L4.out (Nat.le_trans (by simp : w4.heap.size ≤ (w4.alloc (.cells #[.int .i64 kv] 3)).heap.size) hgrow5.size)); obtain ⟨c0, c1, c2, c3, c4, c5⟩ := cells6 HX5.out; clear hown5 hgrow5 hat5 hlt5 hr5) | (refine wpList_append_lies _ rfl (.tmp 31) (.tmp 33) 26 rfl (w.heap.size + 1) 35 i1 _ 6 80 Tryd.underlying26 hj0 hj1 hj2 hj3 rfl (by omega) u8 i rows.flatten rfl (T5.out.alloc _) ⟨w5.heap.size, 0, none⟩ 1 1 [.int .u64 kr.dc, .int .u64 kr.ds, .int .u64 kr.fc, .int .u64 kr.fs, .slice A3 kr.ws.length q3, .slice A4 kr.rs.length q4] rfl rfl (World.news_of_block (cs := #[.int .u64 kr.dc, .int .u64 kr.ds, .int .u64 kr.fc, .int .u64 kr.fs, .slice A3 kr.ws.length q3, .slice A4 kr.rs.length q4]) (t := 35) (fr := (0, 0)) (heap_last w5 _)) (by simp [Value.oneCell']) (by omega) (by unfold maxLen; omega) (by omega) (by have := L5.out; simp <;> omega) (w5.heap.size + 1) (by simp) ?_; intro g6 cap6 w6 hown6 hgrow6 hat6 hlt6; have T6 := hid hown6; have G6 := hid hgrow6; clear hown6 hgrow6 hat6 hlt6))
      go_roundg (ds.length - (i + 1))
      case measure => exact hmeas
      case rel =>
        have hr6 : ∀ g, u8.ownBlock = some g → w.heap.size ≤ g ∧ ∃ cs E f, (w5.alloc (.cells #[.int .u64 kr.dc, .int .u64 kr.ds, .int .u64 kr.fc, .int .u64 kr.fs, .slice A3 kr.ws.length q3, .slice A4 kr.rs.length q4] 35)).heap[g]? = some (.cells cs E f) ∧ E ≠ 49 ∧ E ≠ 64 := fun g e => by
          obtain ⟨h1, cur, h2⟩ := own_lt (T5.out.alloc (.cells #[.int .u64 kr.dc, .int .u64 kr.ds, .int .u64 kr.fc, .int .u64 kr.fs, .slice A3 kr.ws.length q3, .slice A4 kr.rs.length q4] 35)) e
          exact ⟨by omega, cur, 35, _, h2, by decide, by decide⟩
        have K6 := (K5.out.later ((Below.refl _ _).alloc (Nat.le_refl _) (.cells #[.int .u64 kr.dc, .int .u64 kr.ds, .int .u64 kr.fc, .int .u64 kr.fs, .slice A3 kr.ws.length q3, .slice A4 kr.rs.length q4] 35)) (Nat.le_refl _)).gen u8.ownBlock hr6 (fun g hg hne => G6.out.block g hg hne)
        refine ⟨i + 1, oks ++ [br], ks ++ [kr], rows ++ [encR kr A3 A4 q3 q4], kr, A3, A4, q3, q4, rfl, hid ⟨rfl, hlt⟩, ?_, hid K6, ?_, ?_, ?_, ?_, ?_⟩
        · rw [List.take_succ_eq_append_getElem hlt]
          exact hid (Ts.snoc hts.out HR.out)
        · exact hid ((G6.out.block w.heap.size (by have := L5.out; simp <;> omega) (fun e => by have := (own_lt (T5.out.alloc (.cells #[.int .u64 kr.dc, .int .u64 kr.ds, .int .u64 kr.fc, .int .u64 kr.fs, .slice A3 kr.ws.length q3, .slice A4 kr.rs.length q4] 35)) e.symm).1; omega)).trans (hO HX5.out))
        · have h1 := own_other (O5.out.alloc (.cells #[.int .u64 kr.dc, .int .u64 kr.ds, .int .u64 kr.fc, .int .u64 kr.fs, .slice A3 kr.ws.length q3, .slice A4 kr.rs.length q4] 35)) G6.out (T5.out.alloc (.cells #[.int .u64 kr.dc, .int .u64 kr.ds, .int .u64 kr.fc, .int .u64 kr.fs, .slice A3 kr.ws.length q3, .slice A4 kr.rs.length q4] 35)) (by decide)
          rw [List.map_append, List.map_singleton, HKV.out]
          exact hid h1
        · rw [List.flatten_append, List.flatten_singleton]
          exact T6
        · exact hid (StRow.snoc (R5.out.mono (w' := w6) (n' := 100 + (i + 1)) (fun _ _ _ _ _ h => (h.later ((Below.refl _ _).alloc (Nat.le_refl _) (.cells #[.int .u64 kr.dc, .int .u64 kr.ds, .int .u64 kr.fc, .int .u64 kr.fs, .slice A3 kr.ws.length q3, .slice A4 kr.rs.length q4] 35)) (Nat.le_refl _)).gen u8.ownBlock hr6 (fun g hg hne => G6.out.block g hg hne))) kr A3 A4 q3 q4 K6)
        · exact hid (below_app B5.out (by have := L5.out; omega) (own_weaken T5.out (Nat.le_succ _)) (Nat.le_refl _) G6.out)
    · have hil : i = ds.length := by have := hgk.out; omega
      subst hil
      go_wp2_with fail
      go_ret2
      have h1 := hts.out
      rw [List.take_length] at h1
      obtain ⟨l1, l2⟩ := h1.len
      obtain ⟨B1, p1, rfl, hp1, hks⟩ := own_ks l1 (own_weaken ho.out (Nat.zero_le _))
      obtain ⟨B2, p2, rfl, hp2, hst⟩ := st_of_own hrow.out l2 ht.out
      refine ⟨oks, ks, k, B1, B2, p1, p2, rfl, h1, hp1, hp2, hks, hst, fun x hx => ?_, hb.out⟩
      obtain ⟨j, hj, rfl⟩ := List.getElem_of_mem hx
      obtain ⟨_, _, _, _, _, hkx⟩ := hrow.out.2 j hj
      exact ⟨by have := hkx.2.2.2.2.1; omega, by have := hkx.2.2.2.2.2; omega⟩
end Go.Proofs.YtpbhblppehkifaaDoor
