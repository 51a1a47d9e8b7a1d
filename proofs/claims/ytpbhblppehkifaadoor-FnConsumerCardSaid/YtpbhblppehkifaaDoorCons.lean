/- A script over a consumer's store. -/
import Derived.Test.YtpbhblppehkifaaDoorAct
import Derived.Test.YtpbhblppehkifaaDoorKeepC
namespace Go.Proofs.YtpbhblppehkifaaDoor
open Go Go.RowKit Go.MuLone Con
set_option linter.unusedVariables false

def kp0 : Kp := ⟨0, 0, 0, 0, [], []⟩
/-- Deeds, the kinds of each, the state behind each. -/
inductive Tr (ack : Int) : List Dd → List Bool → List Kp → Kp → Prop
  | nil : Tr ack [] [] [] kp0
  | snoc {ds : List Dd} {oks : List Bool} {ks : List Kp} {k k' : Kp} {d : Dd} {ok : Bool} (h : Tr ack ds oks ks k) (hs : StepR ack k d k' ok) : Tr ack (ds ++ [d]) (oks ++ [ok]) (ks ++ [k']) k'
theorem Tr.len {ack : Int} {ds : List Dd} {oks : List Bool} {ks : List Kp} {k : Kp} (h : Tr ack ds oks ks k) : oks.length = ds.length ∧ ks.length = ds.length := by
  induction h with
  | nil => exact ⟨rfl, rfl⟩
  | snoc h _ ih => simp [ih.1, ih.2]

def okV (b : Bool) : Value := .int .i64 (if b then 0 else 1)
/-- A state as it is handed out, with its rows. -/
abbrev KV := Kp × Value × Value
def encT (x : KV) : List Value := [.int .u64 x.1.dc, .int .u64 x.1.ds, .int .u64 x.1.fc, .int .u64 x.1.fs, x.2.1, x.2.2]
def OwnT (w : World) (B : Nat) (x : KV) : Prop := w.ownsRow B 49 3 x.2.1 x.1.ws.length (x.1.ws.flatMap encW) ∧ w.ownsRow B 64 2 x.2.2 x.1.rs.length (x.1.rs.flatMap encA)

theorem Eff.own {B B' E k n : Nat} {w w' : World} {v : Value} {xs : List Value} (h : Eff B' w w') (ho : w.ownsRow B E k v n xs) (h1 : E ≠ 81) (h2 : E ≠ 91) : w'.ownsRow B E k v n xs := by
  refine ⟨ho.1, ?_⟩
  rcases ho.2 with h3 | ⟨g, cap, cur, hv, hb, hc, hr⟩
  · exact Or.inl h3
  · exact Or.inr ⟨g, cap, cur, hv, hb, h.keep g cur E _ h1 h2 hc, hr⟩
theorem own_below {B E k n : Nat} {w w' : World} {v : Value} {xs : List Value} (h : Below w.heap.size w w') (ho : w.ownsRow B E k v n xs) : w'.ownsRow B E k v n xs := by
  refine ⟨ho.1, ?_⟩
  rcases ho.2 with h3 | ⟨g, cap, cur, hv, hb, hc, hr⟩
  · exact Or.inl h3
  · exact Or.inr ⟨g, cap, cur, hv, hb, (h.block g (Array.getElem?_eq_some_iff.1 hc).1).trans hc, hr⟩
theorem own_other {B E k n B' E' k' n' : Nat} {w w' : World} {v v' : Value} {xs xs' : List Value} (ho : w.ownsRow B E k v n xs) (hg : w.grownBy w' v'.ownBlock) (ho' : w.ownsRow B' E' k' v' n' xs') (hE : E ≠ E') : w'.ownsRow B E k v n xs := by
  refine ho.kept hg ?_
  cases hb : v.ownBlock with
  | none => exact Or.inl rfl
  | some g =>
    refine Or.inr fun e1 => ?_
    obtain ⟨_, cur, h1⟩ := own_lt ho hb
    obtain ⟨_, cur', h2⟩ := own_lt ho' e1.symm
    rw [h1] at h2
    cases h2
    exact hE rfl
theorem infoI : (Tryd.prog.info? 3).map (fun i => (i.zero, i.size, i.bytes)) = some (some (.int .i64 0), 1, 8) := by kernel_rfl
theorem infoK : (Tryd.prog.info? 35).map (fun i => (i.zero, i.size, i.bytes)) = some (some (.agg #[.int .u64 0, .int .u64 0, .int .u64 0, .int .u64 0, .slice none 0 0, .slice none 0 0]), 6, 80) := by kernel_rfl

/-- The deeds as they lie in memory. -/
def DsAt (w : World) (A : Option Addr) (ds : List Dd) : Prop := ∀ i (h : i < ds.length), ∃ ad A1 A2 q1 q2, A = some ad ∧ WsAt w A1 ds[i].k.ws ∧ RsAt w A2 ds[i].k.rs ∧
  w.cell? (ad.add (i * 11)) = some (.int .i64 ds[i].op) ∧
  w.cell? ⟨(ad.add (i * 11)).block, (ad.add (i * 11)).off + 1, none⟩ = some (.int .u64 ds[i].c) ∧
  w.cell? ⟨(ad.add (i * 11)).block, (ad.add (i * 11)).off + 2, none⟩ = some (.int .u64 ds[i].s) ∧
  w.cell? ⟨(ad.add (i * 11)).block, (ad.add (i * 11)).off + 3, none⟩ = some (.int .u64 ds[i].t) ∧
  w.cell? ⟨(ad.add (i * 11)).block, (ad.add (i * 11)).off + 4, none⟩ = some (.int .i64 ds[i].at_) ∧
  w.cell? ⟨(ad.add (i * 11)).block, (ad.add (i * 11)).off + 5, none⟩ = some (.int .u64 ds[i].k.dc) ∧
  w.cell? ⟨(ad.add (i * 11)).block, (ad.add (i * 11)).off + 6, none⟩ = some (.int .u64 ds[i].k.ds) ∧
  w.cell? ⟨(ad.add (i * 11)).block, (ad.add (i * 11)).off + 7, none⟩ = some (.int .u64 ds[i].k.fc) ∧
  w.cell? ⟨(ad.add (i * 11)).block, (ad.add (i * 11)).off + 8, none⟩ = some (.int .u64 ds[i].k.fs) ∧
  w.cell? ⟨(ad.add (i * 11)).block, (ad.add (i * 11)).off + 9, none⟩ = some (.slice A1 ds[i].k.ws.length q1) ∧
  w.cell? ⟨(ad.add (i * 11)).block, (ad.add (i * 11)).off + 10, none⟩ = some (.slice A2 ds[i].k.rs.length q2)

/-- What a script comes to. -/
def ConsP (w w' : World) (ack : Int) (ds : List Dd) (v1 v2 : Value) : Prop := ∃ (oks : List Bool) (T : List KV) (k : Kp), Tr ack ds oks (T.map (·.1)) k ∧ w'.ownsRow w.heap.size 3 1 v1 ds.length (oks.map okV) ∧ w'.ownsRow w.heap.size 35 6 v2 ds.length (T.flatMap encT) ∧ (∀ x ∈ T, OwnT w' w.heap.size x) ∧ Below w.heap.size w w'

theorem Sits.row {w w' : World} {B m n : Nat} {ack : Int} {k : Kp} {r : Option Nat} (h : Sits w B m n ack k) (hg : w.grownBy w' r) (hr : ∀ g, r = some g → ∃ (cur : Array Value) (E : TypeId) (f : Nat × Nat), w.heap[g]? = some (Obj.cells cur E f) ∧ E ≠ 81 ∧ E ≠ 91) : Sits w' B m n ack k := by
  obtain ⟨⟨mp, mr, W, hst, hws⟩, n0, n1, n2, n3⟩ := h
  have hc : ∀ (i : Nat) (cs : Array Value) (t : TypeId), (t = 81 ∨ t = 91) → w.heap[i]? = some (Obj.cells cs t (0, 0)) → w'.heap[i]? = some (Obj.cells cs t (0, 0)) := fun i cs t ht hi => (hg.block i (Array.getElem?_eq_some_iff.1 hi).1 (fun e => by
    obtain ⟨cur, E, f, h1, h2, h3⟩ := hr i e.symm
    rw [h1] at hi
    cases hi
    rcases ht with rfl | rfl
    · exact h2 rfl
    · exact h3 rfl)).trans hi
  have hm : ∀ (b : Nat) (es : Array MapEntry) (clock : Nat), w.heap[b]? = some (Obj.map es clock) → some b ≠ r := fun b _ _ hi e => by
    obtain ⟨cur, E, f, h1, _⟩ := hr b e.symm
    rw [h1] at hi
    cases hi
  refine ⟨⟨mp, mr, W, ⟨hc _ _ _ (Or.inl rfl) hst.box, hst.rest.same (fun b hb => ?_) (fun b hb => ?_) (fun e he => ?_)⟩, hws⟩, n0, n1, n2, n3⟩
  · have h1 := hst.rest.pend
    subst hb
    obtain ⟨es, clock, hk, _⟩ := h1
    exact hg.block b (Array.getElem?_eq_some_iff.1 hk).1 (hm b es clock hk)
  · have h1 := hst.rest.red
    subst hb
    obtain ⟨es, clock, hk, _⟩ := h1
    exact hg.block b (Array.getElem?_eq_some_iff.1 hk).1 (hm b es clock hk)
  · exact (hc _ _ _ (Or.inr rfl) (hst.rest.els e he)).trans (hst.rest.els e he).symm

set_option maxRecDepth 100000 in
set_option maxHeartbeats 8000000 in
theorem cons_st (ack : Int) (ds : List Dd) (A : Option Addr) (qd : Nat) (w : World) (hack : ack = 0 ∨ ack = 1 ∨ ack = 2) (hS : SurC w) (hd : DsAt w A ds) (hk : ∀ d ∈ ds, DOk d) (hl : ds.length < 10000) :
    Calls Tryd.prog 12 #[.int .i64 ack, .slice A ds.length qd] w fun e w' => ∃ v1 v2, e = .returned (.tuple #[v1, v2]) ∧ ConsP w w' ack ds v1 v2 := by
  have HD := hid hd
  have HK := hid hk
  clear hd hk
  obtain ⟨i0, hi0, hz0, hz1, hz2⟩ := info_parts infoI
  obtain ⟨i1, hj0, hj1, hj2, hj3⟩ := info_parts infoK
  go_enter Tryd.func12, Tryd.ntmps12
  go_wp2_with fail
  refine (new_any ack w).mono ?_
  rintro e w1 ⟨m, rfl, hst, hb1⟩
  have hz : Ok16 0 := ⟨by omega, by omega⟩
  have hs0 : Hid (Sits w1 w.heap.size m 1000 ack kp0) := hid ⟨⟨none, none, [], hst.mono (Nat.zero_le _), rfl⟩, hz, hz, hz, hz⟩
  have HB1 := hid hb1
  clear hst hb1
  go_wp2_with fail
  go_loopg [4, 5, 7, 8, 9] ds.length (fun gk v4 v5 v7 _ _ wr => ∃ (i : Nat) (oks : List Bool) (T : List KV) (k : Kp), v7 = .int .i64 (i : Nat) ∧ Hid (gk = ds.length - i ∧ i ≤ ds.length) ∧ Hid (Tr ack (ds.take i) oks (T.map (·.1)) k) ∧ Hid (Sits wr w.heap.size m (1000 + i) ack k) ∧
    Hid (wr.ownsRow w.heap.size 3 1 v4 i (oks.map okV)) ∧ Hid (wr.ownsRow w.heap.size 35 6 v5 i (T.flatMap encT)) ∧ Hid (∀ x ∈ T, OwnT wr w.heap.size x) ∧ Hid (Below w.heap.size w wr))
  case atStart => exact ⟨0, [], [], kp0, rfl, hid ⟨rfl, Nat.zero_le _⟩, hid Tr.nil, hs0, hid (World.ownsRow_nil _ _ _ _), hid (World.ownsRow_nil _ _ _ _), hid (by simp), HB1⟩
  case round =>
    clear hs0 HB1
    obtain ⟨i, oks, T, k, rfl, hgk, htr, hs, ho, ht, hT, hb⟩ := hrel
    by_cases hlt : i < ds.length
    · have hmeas : ds.length - (i + 1) < gk := by have := hgk.out; omega
      obtain ⟨ad, A1, A2, q1, q2, rfl, xw, xr, x0, x1, x2, x3, x4, x5, x6, x7, x8, x9, x10⟩ := HD.out i hlt
      have y0 : wr.cell? (ad.add (i * 11)) = some (.int .i64 ds[i].op) := by rw [hb.out.cell (World.block_lt_of_cell? w _ x0)]; exact x0
      have y1 : wr.cell? ⟨(ad.add (i * 11)).block, (ad.add (i * 11)).off + 1, none⟩ = some (.int .u64 ds[i].c) := by rw [hb.out.cell (p := ⟨(ad.add (i * 11)).block, (ad.add (i * 11)).off + 1, none⟩) (World.block_lt_of_cell? w _ x1)]; exact x1
      have y2 : wr.cell? ⟨(ad.add (i * 11)).block, (ad.add (i * 11)).off + 2, none⟩ = some (.int .u64 ds[i].s) := by rw [hb.out.cell (p := ⟨(ad.add (i * 11)).block, (ad.add (i * 11)).off + 2, none⟩) (World.block_lt_of_cell? w _ x2)]; exact x2
      have y3 : wr.cell? ⟨(ad.add (i * 11)).block, (ad.add (i * 11)).off + 3, none⟩ = some (.int .u64 ds[i].t) := by rw [hb.out.cell (p := ⟨(ad.add (i * 11)).block, (ad.add (i * 11)).off + 3, none⟩) (World.block_lt_of_cell? w _ x3)]; exact x3
      have y4 : wr.cell? ⟨(ad.add (i * 11)).block, (ad.add (i * 11)).off + 4, none⟩ = some (.int .i64 ds[i].at_) := by rw [hb.out.cell (p := ⟨(ad.add (i * 11)).block, (ad.add (i * 11)).off + 4, none⟩) (World.block_lt_of_cell? w _ x4)]; exact x4
      have y5 : wr.cell? ⟨(ad.add (i * 11)).block, (ad.add (i * 11)).off + 5, none⟩ = some (.int .u64 ds[i].k.dc) := by rw [hb.out.cell (p := ⟨(ad.add (i * 11)).block, (ad.add (i * 11)).off + 5, none⟩) (World.block_lt_of_cell? w _ x5)]; exact x5
      have y6 : wr.cell? ⟨(ad.add (i * 11)).block, (ad.add (i * 11)).off + 6, none⟩ = some (.int .u64 ds[i].k.ds) := by rw [hb.out.cell (p := ⟨(ad.add (i * 11)).block, (ad.add (i * 11)).off + 6, none⟩) (World.block_lt_of_cell? w _ x6)]; exact x6
      have y7 : wr.cell? ⟨(ad.add (i * 11)).block, (ad.add (i * 11)).off + 7, none⟩ = some (.int .u64 ds[i].k.fc) := by rw [hb.out.cell (p := ⟨(ad.add (i * 11)).block, (ad.add (i * 11)).off + 7, none⟩) (World.block_lt_of_cell? w _ x7)]; exact x7
      have y8 : wr.cell? ⟨(ad.add (i * 11)).block, (ad.add (i * 11)).off + 8, none⟩ = some (.int .u64 ds[i].k.fs) := by rw [hb.out.cell (p := ⟨(ad.add (i * 11)).block, (ad.add (i * 11)).off + 8, none⟩) (World.block_lt_of_cell? w _ x8)]; exact x8
      have y9 : wr.cell? ⟨(ad.add (i * 11)).block, (ad.add (i * 11)).off + 9, none⟩ = some (.slice A1 ds[i].k.ws.length q1) := by rw [hb.out.cell (p := ⟨(ad.add (i * 11)).block, (ad.add (i * 11)).off + 9, none⟩) (World.block_lt_of_cell? w _ x9)]; exact x9
      have y10 : wr.cell? ⟨(ad.add (i * 11)).block, (ad.add (i * 11)).off + 10, none⟩ = some (.slice A2 ds[i].k.rs.length q2) := by rw [hb.out.cell (p := ⟨(ad.add (i * 11)).block, (ad.add (i * 11)).off + 10, none⟩) (World.block_lt_of_cell? w _ x10)]; exact x10
      have XW := hid (xw.later hb.out)
      have XR := hid (xr.later hb.out)
      have hDO := hid (HK.out ds[i] (List.getElem_mem hlt))
      have hSr := hid (hS.later hb.out)
      have hlo : oks.length = i := by have := htr.out.len.1; rw [List.length_take] at this; omega
      have hlT : T.length = i := by have := htr.out.len.2; rw [List.length_map, List.length_take] at this; omega
      clear x0 x1 x2 x3 x4 x5 x6 x7 x8 x9 x10
      clear xw xr
      go_wp2_with fail
      refine (act_st w.heap.size m (1000 + i) ack k ds[i] wr A1 A2 q1 q2 hDO.out hack hSr.out (by have := hS.size; omega) (by omega) (by omega) XW.out XR.out hs.out).mono ?_
      rintro e w3 ⟨v, rfl, ok, k', hv, hstep, hs3, he3⟩
      have HSTEP := hid hstep
      have HS3 := hid hs3
      have O3 := hid (he3.own ho.out (by decide) (by decide))
      have T3 := hid (he3.own ht.out (by decide) (by decide))
      have TT3 : Hid (∀ x ∈ T, OwnT w3 w.heap.size x) := hid fun x hx => ⟨he3.own (hT.out x hx).1 (by decide) (by decide), he3.own (hT.out x hx).2 (by decide) (by decide)⟩
      have B3 := hid (hb.out.trans he3.below)
      have hBs : w.heap.size ≤ w3.heap.size := B3.out.size
      clear hs3 he3 hstep
      go_wp2_with fail
      have hone := one_any v ok hv w3
      obtain ⟨kv, hkv⟩ : ∃ kv : Int, kv = (if ok then 0 else 1) := ⟨_, rfl⟩
      rw [← hkv] at hone
      have HKV := hid hkv
      clear hkv
      refine hone.mono ?_
      rintro e w3' ⟨rfl, rfl⟩
      clear hone
      have nw := hid (heap_last w3 (.cells #[.int .i64 kv] 3))
      go_wp2_with (at_builtin; refine wpList_append_lies _ rfl (.tmp 19) (.tmp 27) 25 rfl w.heap.size 3 i0 _ 1 8 Tryd.underlying25 hi0 hz0 hz1 hz2 rfl (by omega) u4 i (oks.map okV) rfl (O3.out.alloc _) ⟨w3.heap.size, 0, none⟩ 1 1 [.int .i64 kv] rfl rfl (World.news_of_block (cs := #[.int .i64 kv]) (t := 3) (fr := (0, 0)) nw.out) (by simp [Value.oneCell']) (by omega) (by unfold maxLen; omega) (by omega) (by simp <;> omega) (w3.heap.size + 1) (by simp) ?_; intro gg cap w4 hown1 hgrow hat hlt1; have OW := hid hown1; have GR := hid hgrow; clear hown1 hgrow hat)
      have GA := hid (World.grownBy_alloc w3 (.cells #[.int .i64 kv] 3) none)
      have hrowI : ∀ g, u4.ownBlock = some g → ∃ (cur : Array Value) (E : TypeId) (f : Nat × Nat), (w3.alloc (.cells #[.int .i64 kv] 3)).heap[g]? = some (Obj.cells cur E f) ∧ E ≠ 81 ∧ E ≠ 91 := fun g e1 => by
        obtain ⟨_, cur, h1⟩ := own_lt (O3.out.alloc (.cells #[.int .i64 kv] 3)) e1
        exact ⟨cur, 3, _, h1, by decide, by decide⟩
      have HS4 := hid ((HS3.out.row GA.out (by simp)).row GR.out hrowI)
      have T4 := hid (own_other (T3.out.alloc _) GR.out (O3.out.alloc (.cells #[.int .i64 kv] 3)) (by decide))
      have TT4 : Hid (∀ x ∈ T, OwnT w4 w.heap.size x) := hid fun x hx => ⟨own_other ((TT3.out x hx).1.alloc _) GR.out (O3.out.alloc (.cells #[.int .i64 kv] 3)) (by decide), own_other ((TT3.out x hx).2.alloc _) GR.out (O3.out.alloc (.cells #[.int .i64 kv] 3)) (by decide)⟩
      have B4 := hid (below_app B3.out hBs O3.out (Nat.le_refl _) GR.out)
      clear nw GA hrowI O3 T3 TT3 B3 HS3 GR
      obtain ⟨⟨mp, mr, W, hst4, hws4⟩, o0, o1, o2, o3⟩ := HS4.out
      refine (state_st w.heap.size m (1000 + i + 1) ack k'.dc k'.ds k'.fc k'.fs mp mr W k'.rs w4 (by omega) hst4).mono ?_
      rintro e w5 ⟨st, mp2, mr2, W2, rfl, hC5, hv5, hst5, he5⟩
      have HC5 := hid hC5
      have HV5 : Hid (W2.map val = k'.ws) := hid (hv5.trans hws4)
      have HS5 : Hid (Sits w5 w.heap.size m (1000 + (i + 1)) ack k') := hid ⟨⟨mp, mr, W, hst5, hws4⟩, o0, o1, o2, o3⟩
      have hSW : Hid (Srt (W2.map val)) := hid (by rw [hv5]; exact srt_val.2 hst4.rest.sW)
      have hSR : Hid (Srt k'.rs) := hid hst4.rest.sR
      have O5 := hid (he5.own OW.out (by decide) (by decide))
      have T5 := hid (he5.own T4.out (by decide) (by decide))
      have TT5 : Hid (∀ x ∈ T, OwnT w5 w.heap.size x) := hid fun x hx => ⟨he5.own (TT4.out x hx).1 (by decide) (by decide), he5.own (TT4.out x hx).2 (by decide) (by decide)⟩
      have B5 := hid (B4.out.trans he5.below)
      clear hC5 hv5 hst5 he5 hst4 hws4 OW T4 TT4 B4 HS4
      go_wp2_with fail
      refine (keep_st _ st (1000 + i + 1) k'.dc k'.ds k'.fc k'.fs mp2 mr2 W2 k'.rs w5 (by omega) HC5.out hSW.out hSR.out).mono ?_
      rintro e w6 ⟨r1, r2, rfl, hr1, hr2, hb6⟩
      have R1 := hid hr1
      have R2 := hid hr2
      have O6 := hid (own_below hb6 O5.out)
      have T6 := hid (own_below hb6 T5.out)
      have TT6 : Hid (∀ x ∈ T, OwnT w6 w.heap.size x) := hid fun x hx => ⟨own_below hb6 (TT5.out x hx).1, own_below hb6 (TT5.out x hx).2⟩
      have B6 := hid (B5.out.trans (hb6.mono B5.out.size))
      have HS6 := hid (HS5.out.later hb6)
      have hBs6 : w.heap.size ≤ w6.heap.size := B6.out.size
      have hBs5 := hid B5.out.size
      clear hr1 hr2 hb6 O5 T5 TT5 B5 HS5 HC5
      obtain ⟨a1, m1, k1, rfl⟩ := own_shape R1.out
      obtain ⟨a2, m2, k2, rfl⟩ := own_shape R2.out
      have nw := hid (heap_last w6 (.cells #[.int .u64 k'.dc, .int .u64 k'.ds, .int .u64 k'.fc, .int .u64 k'.fs, .slice a1 m1 k1, .slice a2 m2 k2] 35))
      go_wp2_with (at_builtin; refine wpList_append_lies _ rfl (.tmp 36) (.tmp 39) 26 rfl w.heap.size 35 i1 _ 6 80 Tryd.underlying26 hj0 hj1 hj2 hj3 rfl (by omega) u5 i (T.flatMap encT) rfl (T6.out.alloc _) ⟨w6.heap.size, 0, none⟩ 1 1 [.int .u64 k'.dc, .int .u64 k'.ds, .int .u64 k'.fc, .int .u64 k'.fs, .slice a1 m1 k1, .slice a2 m2 k2] rfl rfl (World.news_of_block (cs := #[.int .u64 k'.dc, .int .u64 k'.ds, .int .u64 k'.fc, .int .u64 k'.fs, .slice a1 m1 k1, .slice a2 m2 k2]) (t := 35) (fr := (0, 0)) nw.out) (by simp [Value.oneCell']) (by omega) (by unfold maxLen; omega) (by omega) (by simp <;> omega) (w6.heap.size + 1) (by simp) ?_; intro gg2 cap2 w7 hown2 hgrow2 hat2 hlt2; have OW2 := hid hown2; have GR2 := hid hgrow2; clear hown2 hgrow2 hat2)
      go_roundg (ds.length - (i + 1))
      case measure => exact hmeas
      case rel =>
        have GA := World.grownBy_alloc w6 (.cells #[.int .u64 k'.dc, .int .u64 k'.ds, .int .u64 k'.fc, .int .u64 k'.fs, .slice a1 m1 k1, .slice a2 m2 k2] 35) none
        have TA := T6.out.alloc (.cells #[.int .u64 k'.dc, .int .u64 k'.ds, .int .u64 k'.fc, .int .u64 k'.fs, .slice a1 m1 k1, .slice a2 m2 k2] 35)
        have hrow : ∀ g, u5.ownBlock = some g → ∃ (cur : Array Value) (E : TypeId) (f : Nat × Nat), (w6.alloc (.cells #[.int .u64 k'.dc, .int .u64 k'.ds, .int .u64 k'.fc, .int .u64 k'.fs, .slice a1 m1 k1, .slice a2 m2 k2] 35)).heap[g]? = some (Obj.cells cur E f) ∧ E ≠ 81 ∧ E ≠ 91 := fun g e1 => by
          obtain ⟨_, cur, h1⟩ := own_lt TA e1
          exact ⟨cur, 35, _, h1, by decide, by decide⟩
        have own1 : ∀ {B' E k n : Nat} {v : Value} {xs : List Value}, w6.ownsRow B' E k v n xs → E ≠ 35 → w7.ownsRow B' E k v n xs := fun h1 h2 => own_other (h1.alloc _) GR2.out TA h2
        have hlW : W2.length = k'.ws.length := by have := congrArg List.length HV5.out; rwa [List.length_map] at this
        refine ⟨i + 1, oks ++ [ok], T ++ [(k', .slice a1 m1 k1, .slice a2 m2 k2)], k', rfl, hid ⟨rfl, hlt⟩, ?_, hid ((HS6.out.row GA (by simp)).row GR2.out hrow), ?_, ?_, ?_, ?_⟩
        · have := Tr.snoc htr.out HSTEP.out
          rw [List.take_succ_eq_append_getElem hlt, List.map_append]
          exact hid this
        · have h1 := own1 O6.out (by decide)
          rw [List.map_append]
          rw [HKV.out] at h1
          exact hid h1
        · have h1 := OW2.out
          rw [List.flatMap_append]
          exact hid h1
        · refine hid fun x hx => ?_
          rcases List.mem_append.1 hx with hx | hx
          · exact ⟨own1 (TT6.out x hx).1 (by decide), own1 (TT6.out x hx).2 (by decide)⟩
          · have hx' : x = (k', .slice a1 m1 k1, .slice a2 m2 k2) := by simpa using hx
            subst hx'
            have h1 := R1.out
            rw [hlW, HV5.out] at h1
            exact ⟨own1 (own_base h1 hBs5.out) (by decide), own1 (own_base R2.out hBs5.out) (by decide)⟩
        · exact hid (below_app B6.out hBs6 T6.out (Nat.le_refl _) GR2.out)
    · have hil : i = ds.length := by have := hgk.out; omega
      go_wp2_with fail
      go_ret2
      have h1 := htr.out
      rw [hil, List.take_length] at h1
      exact ⟨_, _, rfl, oks, T, k, h1, by rw [← hil]; exact ho.out, by rw [← hil]; exact ht.out, hT.out, hb.out⟩
end Go.Proofs.YtpbhblppehkifaaDoor
