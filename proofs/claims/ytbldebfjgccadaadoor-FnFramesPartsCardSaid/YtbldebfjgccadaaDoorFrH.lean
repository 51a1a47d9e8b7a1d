/- How memory stands while frames are read, and what becomes of it. -/
import Derived.Test.YtbldebfjgccadaaDoorFrG
namespace Go.Proofs.YtbldebfjgccadaaDoor
open Go.RowKit
set_option linter.unusedVariables false
set_option linter.unusedSimpArgs false

theorem ne_of_len {q : List Nat} {a b : Nat} (h1 : a < b) (h2 : b ≤ q.length) : q ≠ [] := by
  rintro rfl
  simp at h2
  omega
theorem Mv.cell {X : Nat → Prop} {w w' : World} (m : Mv X w w') {b i : Nat} {v : Value} (h : w.cell? ⟨b, i, none⟩ = some v) (hb : ¬ X b) : w'.cell? ⟨b, i, none⟩ = some v :=
  (World.cell?_of_block (w := w) (m.block b (World.block_lt_of_cell? w _ h) hb)).trans h
theorem Lie.mv {X : Nat → Prop} {w w' : World} (m : Mv X w w') {g o : Nat} {xs : List Nat} (h : Lie w g o xs) (hb : ¬ X g) : Lie w' g o xs := h.bent (fun hl => m.block g hl hb)

/-- Where things lie: the client, the reader, the connection, its pieces' row, the data's variable. -/
structure Env where
  B : Nat
  lim : Nat
  BO : Nat
  c : Nat
  r : Nat
  p : Nat
  A : Nat
  N : Nat
  cap : Nat
  ob : Nat
  w0 : World
  qe : Addr
  L : Nat
structure Env.Ok (E : Env) : Prop where
  b4 : 4 ≤ E.B
  bA : E.B ≤ E.A
  aLim : E.A < E.lim
  lc : E.lim ≤ E.c
  lr : E.lim ≤ E.r
  lp : E.lim ≤ E.p
  lob : E.lim ≤ E.ob
  cB : E.c < E.BO
  rB : E.r < E.BO
  pB : E.p < E.BO
  obB : E.ob < E.BO
  cr : E.c ≠ E.r
  cp : E.c ≠ E.p
  cob : E.c ≠ E.ob
  rp : E.r ≠ E.p
  rob : E.r ≠ E.ob
  pob : E.p ≠ E.ob
  eof : E.w0.cell? ⟨1, 0, none⟩ = some (errV E.qe)
  tabs : Lib.Utf8Tabs 2 3 E.w0
  wB : E.B ≤ E.w0.heap.size

/-- The data so far. -/
structure Outs (E : Env) (w : World) (outs : List Pc) : Prop where
  row : ∃ v, w.heap[E.ob]? = some (.cells #[v] 45 (0, 0)) ∧ w.ownsRow E.BO 52 1 v outs.length (outs.map Pc.val)
  lies : ∀ x ∈ outs, Lie w x.g x.o x.xs ∧ x.g < E.lim ∧ x.g ≠ E.A
/-- At the end: how it was closed, the data. -/
structure Fin (E : Env) (w : World) (st : Nat) (outs : List Pc) : Prop where
  below : Below E.B E.w0 w
  cl : ∃ kv, Cl w E.c kv st
  outs : Outs E w outs
/-- While frames are read. -/
structure St (E : Env) (g o n : Nat) (w : World) (rem : Nat) (fs ff : Bool) (mp k0 k1 k2 k3 pos at_ K : Nat) (cur : List Nat) (ps outs : List Pc) : Prop where
  below : Below E.B E.w0 w
  size : E.BO ≤ w.heap.size
  rd : w.heap[E.r]? = some (.cells (rdCells rem fs ff mp k0 k1 k2 k3) 68 (0, 0))
  key : Key k0 k1 k2 k3
  mp4 : mp < 4
  cl : ∃ kv xs m, m ≤ K ∧ Cl w E.c kv 0 ∧ w.ownsRow E.BO 94 9 kv m xs
  left : Ps w E.p E.A E.N E.cap at_ ps
  here : Lie w g (o + pos) cur
  len : pos + cur.length = n
  told : Outs E w outs
  cnt : outs.length ≤ K
  pcs : ∀ q ∈ ps, E.B ≤ q.g ∧ q.g < E.lim ∧ q.g ≠ E.A ∧ q.g ≠ g
  nodup : (ps.map (·.g)).Nodup
  apart : ∀ x ∈ outs, ∀ q ∈ ps, x.xs ≠ [] → q.xs ≠ [] → x.g ≠ q.g ∨ x.o + x.xs.length ≤ q.o
  apartC : ∀ x ∈ outs, x.xs ≠ [] → cur ≠ [] → x.g ≠ g ∨ x.o + x.xs.length ≤ o + pos
  short : ps.length ≤ E.L ∧ ∀ q ∈ ps, q.xs.length ≤ 5000

theorem short_adv {ps ps' : List Pc} {L : Nat} (h : ps.length ≤ L ∧ ∀ q ∈ ps, q.xs.length ≤ 5000) (adv : Adv ps ps') : ps'.length ≤ L ∧ ∀ q ∈ ps', q.xs.length ≤ 5000 := by
  refine ⟨?_, fun q hq => ?_⟩
  · have := adv.sub.length_le
    simp at this
    omega
  · obtain ⟨y, hy, _, l, _⟩ := adv.each q hq
    have := h.2 y hy
    omega
theorem Cl.notOwn {E : Env} {w : World} {kv : Value} {m size T k : Nat} {xs : List Value} (h : w.ownsRow E.BO T size kv m xs) (hk : k < E.BO) : kv.ownBlock ≠ some k := fun e => by have := (h.lt _ e).1; omega
theorem St.fin {E : Env} {g o n : Nat} {w : World} {rem : Nat} {fs ff : Bool} {mp k0 k1 k2 k3 pos at_ K : Nat} {cur : List Nat} {ps outs : List Pc} (h : St E g o n w rem fs ff mp k0 k1 k2 k3 pos at_ K cur ps outs) : Fin E w 0 outs := by
  obtain ⟨kv, xs, m, _, hc, _⟩ := h.cl
  exact ⟨h.below, ⟨kv, hc⟩, h.told⟩
theorem Outs.mv {E : Env} {X : Nat → Prop} {w w' : World} {outs : List Pc} (h : Outs E w outs) (m : Mv X w w') (hob : ¬ X E.ob) (hlim : ∀ k, k < E.lim → k ≠ E.A → ¬ X k) (hown : ∀ v, w.heap[E.ob]? = some (.cells #[v] 45 (0, 0)) → ∀ k, v.ownBlock = some k → ¬ X k) : Outs E w' outs := by
  obtain ⟨v, h1, h2⟩ := h.row
  exact ⟨⟨v, m.same hob h1, own_mv h2 m (hown v h1)⟩, fun x hx => ⟨(h.lies x hx).1.mv m (hlim _ (h.lies x hx).2.1 (h.lies x hx).2.2), (h.lies x hx).2⟩⟩
theorem Outs.mv' {E : Env} {X : Nat → Prop} {w w' : World} {outs : List Pc} (h : Outs E w outs) (m : Mv X w w') (hob : E.ob < E.BO) (hX : ∀ k, X k → k ≠ E.ob ∧ k < E.BO ∧ (k < E.lim → k = E.A)) : Outs E w' outs := by
  refine h.mv m (fun x => (hX _ x).1 rfl) (fun k hk hA x => hA ((hX _ x).2.2 hk)) (fun v hv k e x => ?_)
  obtain ⟨v', h1, h2⟩ := h.row
  rw [hv] at h1
  cases h1
  have := (h2.lt _ e).1
  have := (hX _ x).2.1
  omega
theorem below_mv {X : Nat → Prop} {B : Nat} {w0 w w' : World} (h : Below B w0 w) (m : Mv X w w') (hB : B ≤ w0.heap.size) (hX : ∀ k, X k → B ≤ k) : Below B w0 w' :=
  h.trans ⟨m.os, m.tape, m.output, m.size, fun k hk => m.block k (by have := h.size; omega) (fun x => by have := hX _ x; omega)⟩

/-- Behind a call that changes the connection alone. -/
theorem St.conn {E : Env} (ok : E.Ok) {g o n : Nat} {w w' : World} {rem : Nat} {fs ff : Bool} {mp k0 k1 k2 k3 pos at_ K a' : Nat} {cur : List Nat} {ps outs ps' : List Pc} (h : St E g o n w rem fs ff mp k0 k1 k2 k3 pos at_ K cur ps outs)
    (hg : g < E.lim ∧ g ≠ E.A ∨ cur = []) (m : Mv (fun k => k = E.p ∨ k = E.A) w w') (hps : Ps w' E.p E.A E.N E.cap a' ps') (adv : Adv ps ps') : St E g o n w' rem fs ff mp k0 k1 k2 k3 pos a' K cur ps' outs := by
  obtain ⟨b4, bA, aLim, lc, lr, lp, lob, cB, rB, pB, obB, cr, cp, cob, rp, rob, pob, _, _, wB⟩ := ok
  obtain ⟨kv, xs, mm, h1, h2, h3⟩ := h.cl
  refine ⟨below_mv h.below m wB (fun k hk => by omega), Nat.le_trans h.size m.size, m.same (by omega) h.rd, h.key, h.mp4, ⟨kv, xs, mm, h1, h2.keep (m.block _ h2.lt (by omega)), own_mv h3 m (fun k e hx => by have := (h3.lt _ e).1; omega)⟩, hps, ?_, h.len, h.told.mv' m obB (fun k hk => by omega), h.cnt, fun q hq => ?_, adv.sub.nodup h.nodup, fun x hx q hq hxn hqn => ?_, h.apartC, short_adv h.short adv⟩
  · rcases hg with hg | hg
    · exact h.here.mv m (by omega)
    · rw [hg]; intro i hi; simp at hi
  · obtain ⟨y, hy, e, _, _⟩ := adv.each q hq
    rw [e]; exact h.pcs y hy
  · obtain ⟨y, hy, e, _, e2⟩ := adv.each q hq
    obtain ⟨e3, e4⟩ := e2 hqn
    rcases h.apart x hx y hy hxn e3 with h5 | h5
    · left; rw [e]; exact h5
    · right; omega
theorem St.grow {E : Env} (ok : E.Ok) {g o n : Nat} {w w' : World} {rem : Nat} {fs ff : Bool} {mp k0 k1 k2 k3 pos at_ K : Nat} {cur : List Nat} {ps outs : List Pc} (h : St E g o n w rem fs ff mp k0 k1 k2 k3 pos at_ K cur ps outs)
    (m : Below w.heap.size w w') : St E g o n w' rem fs ff mp k0 k1 k2 k3 pos at_ K cur ps outs := by
  obtain ⟨kv, xs, mm, h1, h2, h3⟩ := h.cl
  have M : Mv (fun _ => False) w w' := Mv.below m
  exact ⟨below_mv h.below M ok.wB (fun k hk => hk.elim), Nat.le_trans h.size M.size, M.same (fun h => h) h.rd, h.key, h.mp4, ⟨kv, xs, mm, h1, h2.keep (M.block _ h2.lt (fun h => h)), own_mv h3 M (fun k e hx => hx)⟩, h.left.bent (fun k hk _ => M.block k hk (fun h => h)), h.here.mv M (fun h => h), h.len, h.told.mv M (fun h => h) (fun k _ _ h => h) (fun _ _ _ _ h => h), h.cnt, h.pcs, h.nodup, h.apart, h.apartC, h.short⟩
/-- .. the reader alone. -/
theorem St.reader {E : Env} (ok : E.Ok) {g o n : Nat} {w w' : World} {rem rem' : Nat} {fs ff fs' ff' : Bool} {mp k0 k1 k2 k3 mp' l0 l1 l2 l3 pos at_ K : Nat} {cur : List Nat} {ps outs : List Pc} (h : St E g o n w rem fs ff mp k0 k1 k2 k3 pos at_ K cur ps outs)
    (hg : g < E.lim) (m : Mv (fun k => k = E.r) w w') (hr : w'.heap[E.r]? = some (.cells (rdCells rem' fs' ff' mp' l0 l1 l2 l3) 68 (0, 0))) (hk : Key l0 l1 l2 l3) (hm : mp' < 4) : St E g o n w' rem' fs' ff' mp' l0 l1 l2 l3 pos at_ K cur ps outs := by
  obtain ⟨b4, bA, aLim, lc, lr, lp, lob, cB, rB, pB, obB, cr, cp, cob, rp, rob, pob, _, _, wB⟩ := ok
  obtain ⟨kv, xs, mm, h1, h2, h3⟩ := h.cl
  exact ⟨below_mv h.below m wB (fun k hk => by omega), Nat.le_trans h.size m.size, hr, hk, hm, ⟨kv, xs, mm, h1, h2.keep (m.block _ h2.lt (by omega)), own_mv h3 m (fun k e hx => by have := (h3.lt _ e).1; omega)⟩, h.left.bent (fun k hk hx => m.block k hk (by rcases hx with hx | hx | ⟨x, hx, e⟩; omega; omega; have := h.pcs x hx; omega)), h.here.mv m (by omega), h.len, h.told.mv' m obB (fun k hk => by omega), h.cnt, h.pcs, h.nodup, h.apart, h.apartC, h.short⟩
/-- .. the client alone. -/
theorem St.client {E : Env} (ok : E.Ok) {g o n : Nat} {w w' : World} {rem : Nat} {fs ff : Bool} {mp k0 k1 k2 k3 pos at_ K K' : Nat} {cur : List Nat} {ps outs : List Pc} (h : St E g o n w rem fs ff mp k0 k1 k2 k3 pos at_ K cur ps outs)
    (hg : g < E.lim) {kv : Value} {T : Nat} {zs : List Value} (hv : w.ownsRow E.BO 94 9 kv T zs) (m : Mv (fun k => k = E.c ∨ kv.ownBlock = some k) w w') (hc : ∃ kv xs m, m ≤ K' ∧ Cl w' E.c kv 0 ∧ w'.ownsRow E.BO 94 9 kv m xs) (hK : K ≤ K') : St E g o n w' rem fs ff mp k0 k1 k2 k3 pos at_ K' cur ps outs := by
  obtain ⟨b4, bA, aLim, lc, lr, lp, lob, cB, rB, pB, obB, cr, cp, cob, rp, rob, pob, _, _, wB⟩ := ok
  have hx : ∀ k, (k = E.c ∨ kv.ownBlock = some k) → k = E.c ∨ E.BO ≤ k := fun k hk => hk.imp id (fun e => (hv.lt _ e).1)
  refine ⟨below_mv h.below m wB (fun k hk => by have := hx k hk; omega), Nat.le_trans h.size m.size, m.same (fun hk => by have := hx _ hk; omega) h.rd, h.key, h.mp4, hc, h.left.bent (fun k hk hy => m.block k hk (fun hz => by have := hx k hz; rcases hy with hy | hy | ⟨x, hy, e⟩; omega; omega; have := h.pcs x hy; omega)), h.here.mv m (fun hk => by have := hx _ hk; omega), h.len, h.told.mv m (fun hk => by have := hx _ hk; omega) (fun k hk _ hz => by have := hx k hz; omega) (fun v h0 k e hz => ?_), Nat.le_trans h.cnt hK, h.pcs, h.nodup, h.apart, h.apartC, h.short⟩
  obtain ⟨v', h1, h2⟩ := h.told.row
  rw [h0] at h1
  cases h1
  have h5 := (h2.lt _ e).1
  rcases hz with rfl | hz
  · omega
  · obtain ⟨_, h6 | ⟨g1, cap1, cur1, rfl, _, hb1, _⟩⟩ := hv
    · obtain ⟨rfl, _⟩ := h6; simp [Value.ownBlock] at hz
    · obtain ⟨_, h6 | ⟨g2, cap2, cur2, rfl, _, hb2, _⟩⟩ := h2
      · obtain ⟨rfl, _⟩ := h6; simp [Value.ownBlock] at e
      · simp [Value.ownBlock] at hz e
        subst hz; subst e
        rw [hb1] at hb2
        cases hb2
/-- Bytes of the buffer are passed by. -/
theorem St.skip {E : Env} {g o n : Nat} {w : World} {rem : Nat} {fs ff : Bool} {mp k0 k1 k2 k3 pos at_ K : Nat} {cur : List Nat} {ps outs : List Pc} (h : St E g o n w rem fs ff mp k0 k1 k2 k3 pos at_ K cur ps outs) (d pos' : Nat) (hp : pos' + (cur.drop d).length = n) : St E g o n w rem fs ff mp k0 k1 k2 k3 pos' at_ K (cur.drop d) ps outs := by
  have hl := h.len
  rw [List.length_drop] at hp
  by_cases hd : d ≤ cur.length
  · obtain rfl : pos' = pos + d := by omega
    refine ⟨h.below, h.size, h.rd, h.key, h.mp4, h.cl, h.left, fun i hi => ?_, by rw [List.length_drop]; omega, h.told, h.cnt, h.pcs, h.nodup, h.apart, fun x hx hxn hcn => ?_, h.short⟩
    · have := h.here (d + i) (by simp at hi; omega)
      rw [List.getElem_drop, show o + (pos + d) + i = o + pos + (d + i) by omega]
      exact this
    · rcases h.apartC x hx hxn (fun e => hcn (by rw [e]; simp)) with h5 | h5
      · exact Or.inl h5
      · right; omega
  · have e : cur.drop d = [] := List.drop_of_length_le (by omega)
    rw [e]
    exact ⟨h.below, h.size, h.rd, h.key, h.mp4, h.cl, h.left, fun i hi => by simp at hi, by simp; omega, h.told, h.cnt, h.pcs, h.nodup, h.apart, fun x hx hxn hcn => absurd rfl hcn, h.short⟩
/-- Behind a call that changes the connection and the reader. -/
theorem St.connR {E : Env} (ok : E.Ok) {g o n : Nat} {w w' : World} {rem rem' : Nat} {fs ff fs' ff' : Bool} {mp k0 k1 k2 k3 mp' l0 l1 l2 l3 pos at_ K a' : Nat} {cur : List Nat} {ps outs ps' : List Pc} (h : St E g o n w rem fs ff mp k0 k1 k2 k3 pos at_ K cur ps outs)
    (hg : g < E.lim ∧ g ≠ E.A ∨ cur = []) (m : Mv (fun k => k = E.p ∨ k = E.A ∨ k = E.r) w w') (hr : w'.heap[E.r]? = some (.cells (rdCells rem' fs' ff' mp' l0 l1 l2 l3) 68 (0, 0))) (hk : Key l0 l1 l2 l3) (hm : mp' < 4) (hps : Ps w' E.p E.A E.N E.cap a' ps') (adv : Adv ps ps') : St E g o n w' rem' fs' ff' mp' l0 l1 l2 l3 pos a' K cur ps' outs := by
  obtain ⟨b4, bA, aLim, lc, lr, lp, lob, cB, rB, pB, obB, cr, cp, cob, rp, rob, pob, _, _, wB⟩ := ok
  obtain ⟨kv, xs, mm, h1, h2, h3⟩ := h.cl
  refine ⟨below_mv h.below m wB (fun k hk => by omega), Nat.le_trans h.size m.size, hr, hk, hm, ⟨kv, xs, mm, h1, h2.keep (m.block _ h2.lt (by omega)), own_mv h3 m (fun k e hx => by have := (h3.lt _ e).1; omega)⟩, hps, ?_, h.len, h.told.mv' m obB (fun k hk => by omega), h.cnt, fun q hq => ?_, adv.sub.nodup h.nodup, fun x hx q hq hxn hqn => ?_, h.apartC, short_adv h.short adv⟩
  · rcases hg with hg | hg
    · exact h.here.mv m (by omega)
    · rw [hg]; intro i hi; simp at hi
  · obtain ⟨y, hy, e, _, _⟩ := adv.each q hq
    rw [e]; exact h.pcs y hy
  · obtain ⟨y, hy, e, _, e2⟩ := adv.each q hq
    obtain ⟨e3, e4⟩ := e2 hqn
    rcases h.apart x hx y hy hxn e3 with h5 | h5
    · left; rw [e]; exact h5
    · right; omega
theorem Wr.frozen {g o n r : Nat} {w w' : World} (h : Wr g o n r w w') {xs : List Nat} {o' : Nat} (hx : Lie w g o' xs) (hd : o' + xs.length ≤ o ∨ o + n ≤ o') : Lie w' g o' xs := fun i hi => by
  obtain ⟨a, b, c⟩ := hx i hi
  refine ⟨(h.cell _ (by omega)).trans a, b, ?_⟩
  obtain ⟨o1, ho1⟩ : ∃ o1, w.heap[g]? = some o1 := ⟨_, Array.getElem?_eq_getElem (World.block_lt_of_cell? w _ a)⟩
  cases o1 with
  | cells cs t fr =>
    obtain ⟨cs', h2⟩ := h.typ cs t fr ho1
    have e : w'.frozen? ⟨g, o' + i, none⟩ = w.frozen? ⟨g, o' + i, none⟩ := by simp [World.frozen?, ho1, h2]
    rw [e]; exact c
  | _ => simp [World.cell?, ho1] at a
/-- The next bytes of the buffer are masked. -/
theorem St.maskHere {E : Env} (ok : E.Ok) {g o n : Nat} {w w' : World} {rem rem' : Nat} {fs ff fs' ff' : Bool} {mp k0 k1 k2 k3 mp' pos at_ K d : Nat} {cur : List Nat} {ps outs : List Pc} (h : St E g o n w rem fs ff mp k0 k1 k2 k3 pos at_ K cur ps outs)
    (hg : E.B ≤ g ∧ g < E.lim ∧ g ≠ E.A) (hd : d ≤ cur.length) (m : Wr g (o + pos) d E.r w w') (hr : w'.heap[E.r]? = some (.cells (rdCells rem' fs' ff' mp' k0 k1 k2 k3) 68 (0, 0))) (hm : mp' < 4) : St E g o n w' rem' fs' ff' mp' k0 k1 k2 k3 (pos + d) at_ K (cur.drop d) ps outs := by
  obtain ⟨b4, bA, aLim, lc, lr, lp, lob, cB, rB, pB, obB, cr, cp, cob, rp, rob, pob, _, _, wB⟩ := ok
  obtain ⟨kv, xs, mm, h1, h2, h3⟩ := h.cl
  have hl := h.len
  have M : Mv (fun k => k = g ∨ k = E.r) w w' := ⟨m.os, m.tape, m.output, m.size, fun k hk hx => m.block k hk (by omega) (by omega)⟩
  have h' := h.skip d (pos + d) (by rw [List.length_drop]; omega)
  have hsz := h.size
  refine ⟨below_mv h.below M wB (fun k hk => by omega), Nat.le_trans h.size m.size, hr, h.key, hm, ⟨kv, xs, mm, h1, h2.keep (M.block _ h2.lt (by omega)), own_mv h3 M (fun k e hx => by have := (h3.lt _ e).1; omega)⟩, h.left.bent (fun k hk hx => M.block k hk (by rcases hx with hx | hx | ⟨x, hx, e⟩; omega; omega; have := h.pcs x hx; omega)), m.frozen h'.here (Or.inr (by omega)), h'.len, ⟨?_, fun x hx => ?_⟩, h.cnt, h.pcs, h.nodup, h.apart, h'.apartC, h.short⟩
  · obtain ⟨v, h1, h2⟩ := h.told.row
    exact ⟨v, M.same (by omega) h1, own_mv h2 M (fun k e hx => by have := (h2.lt _ e).1; omega)⟩
  · refine ⟨?_, (h.told.lies x hx).2⟩
    by_cases hxn : x.xs = []
    · rw [hxn]; intro i hi; simp at hi
    · by_cases e : x.g = g
      · by_cases hd0 : d = 0
        · subst hd0
          have := m.frozen (xs := x.xs) (o' := x.o) (by rw [← e]; exact (h.told.lies x hx).1)
          rw [e]
          rcases Nat.lt_or_ge x.o (o + pos) with h9 | h9
          · rcases Nat.lt_or_ge (o + pos) (x.o + x.xs.length) with h8 | h8
            · intro i hi
              have h7 := (h.told.lies x hx).1
              rw [e] at h7
              have h6 : Lie w g (x.o + i) [x.xs[i]] := fun j hj => by
                simp at hj
                subst hj
                simpa using h7 i hi
              have := (m.frozen h6 (by simp; omega)) 0 (by simp)
              simpa using this
            · exact this (Or.inl h8)
          · exact this (Or.inr (by omega))
        · have hc : cur ≠ [] := ne_of_len (a := 0) (b := d) (by omega) hd
          rcases h.apartC x hx hxn hc with h5 | h5
          · exact absurd e h5
          · rw [e]
            exact m.frozen (by rw [← e]; exact (h.told.lies x hx).1) (Or.inl h5)
      · exact (h.told.lies x hx).1.mv M (by have := (h.told.lies x hx).2.1; omega)
/-- The next bytes of the buffer are told. -/
theorem St.handled {E : Env} (ok : E.Ok) {g o n cc : Nat} {w w' : World} {rem : Nat} {fs ff : Bool} {mp k0 k1 k2 k3 pos0 pos at_ K : Nat} {cur data : List Nat} {ps outs : List Pc} {v : Value} {e : Ending} (h : St E g o n w rem fs ff mp k0 k1 k2 k3 pos at_ K cur ps outs)
    (hg : E.B ≤ g ∧ g < E.lim ∧ g ≠ E.A) (hv : w.heap[E.ob]? = some (.cells #[v] 45 (0, 0))) (hl : Lie w g (o + pos0) data) (hp : pos0 + data.length = pos)
    (hp2 : HandlePost E.ob E.BO v (Pc.val ⟨g, o + pos0, cc, data⟩) (outs.map Pc.val) w e w') : St E g o n w' rem fs ff mp k0 k1 k2 k3 pos at_ (K + 1) cur ps (outs ++ [⟨g, o + pos0, cc, data⟩]) := by
  obtain ⟨_, m, v', h1', h2'⟩ := hp2
  obtain ⟨b4, bA, aLim, lc, lr, lp, lob, cB, rB, pB, obB, cr, cp, cob, rp, rob, pob, _, _, wB⟩ := ok
  obtain ⟨kv, xs, mm, h1, h2, h3⟩ := h.cl
  obtain ⟨v0, g1, g2⟩ := h.told.row
  rw [hv] at g1
  cases g1
  have hx : ∀ k, (k = E.ob ∨ v.ownBlock = some k) → k = E.ob ∨ E.BO ≤ k := fun k hk => hk.imp id (fun e => (g2.lt _ e).1)
  refine ⟨below_mv h.below m wB (fun k hk => by have := hx k hk; omega), Nat.le_trans h.size m.size, m.same (fun hk => by have := hx _ hk; omega) h.rd, h.key, h.mp4, ⟨kv, xs, mm, by omega, h2.keep (m.block _ h2.lt (fun hk => by have := hx _ hk; omega)), own_mv h3 m (fun k e hz => ?_)⟩, h.left.bent (fun k hk hy => m.block k hk (fun hz => by have := hx k hz; rcases hy with hy | hy | ⟨x, hy, e⟩; omega; omega; have := h.pcs x hy; omega)), h.here.mv m (fun hk => by have := hx _ hk; omega), h.len, ⟨⟨v', h1', ?_⟩, fun x hx2 => ?_⟩, by have := h.cnt; simp; omega, h.pcs, h.nodup, fun x hx2 q hq hxn hqn => ?_, fun x hx2 hxn hcn => ?_, h.short⟩
  · have h5 := (h3.lt _ e).1
    rcases hz with rfl | hz
    · omega
    · obtain ⟨_, h6 | ⟨g3, cap1, cur1, rfl, _, hb1, _⟩⟩ := h3
      · obtain ⟨rfl, _⟩ := h6; simp [Value.ownBlock] at e
      · obtain ⟨_, h6 | ⟨g4, cap2, cur2, rfl, _, hb2, _⟩⟩ := g2
        · obtain ⟨rfl, _⟩ := h6; simp [Value.ownBlock] at hz
        · simp [Value.ownBlock] at hz e
          subst hz; subst e
          rw [hb1] at hb2
          cases hb2
  · rw [List.length_map] at h2'
    rw [List.length_append, List.map_append]
    exact h2'
  · rcases List.mem_append.1 hx2 with hx2 | hx2
    · exact ⟨(h.told.lies x hx2).1.mv m (fun hk => by have := hx _ hk; have := (h.told.lies x hx2).2.1; omega), (h.told.lies x hx2).2⟩
    · obtain rfl : x = _ := by simpa using hx2
      exact ⟨hl.mv m (fun hk => by have := hx _ hk; omega), hg.2⟩
  · rcases List.mem_append.1 hx2 with hx2 | hx2
    · exact h.apart x hx2 q hq hxn hqn
    · obtain rfl : x = _ := by simpa using hx2
      exact Or.inl (fun e => (h.pcs q hq).2.2.2 e.symm)
  · rcases List.mem_append.1 hx2 with hx2 | hx2
    · exact h.apartC x hx2 hxn hcn
    · obtain rfl : x = _ := by simpa using hx2
      exact Or.inr (by show o + pos0 + data.length ≤ o + pos; omega)
end Go.Proofs.YtbldebfjgccadaaDoor
