/- The walk of ReadFrames. -/
import Derived.Test.YtbldebfjgccadaaDoorFrS
namespace Go.Proofs.YtbldebfjgccadaaDoor
open Go.RowKit
attribute [local go_sem ↓] Go.wp_at_zero Go.wp_at_succ
set_option linter.unusedVariables false
set_option linter.unusedSimpArgs false
set_option maxHeartbeats 8000000
set_option maxRecDepth 1000000

noncomputable def cs63 : Array Value := match Tryd.prog.info? 63 with
  | some i => match i.zero with
    | some (.agg cs) => cs
    | _ => #[]
  | none => #[]
theorem zero63 : ∀ w, (zeroValue 63).run Tryd.prog w = .ok (.agg cs63) w := fun w => by kernel_rfl
theorem cs63_size : cs63.size = 4130 := by kernel_rfl
theorem cs63_kept : cs63[4128]? = some (.slice none 0 0) := by kernel_rfl
theorem cs63_closed : cs63[4129]? = some (.int .i64 0) := by kernel_rfl
theorem cs63_ne : ¬ cs63 = #[] := fun e => by have := cs63_size; rw [e] at this; cases this

theorem init_any (r : Nat) (w : World) (hr : w.heap[r]? = some (.cells (rdCells 0 false false 0 0 0 0 0) 68 (0, 0))) :
    Calls Tryd.prog 20 #[.pointer (some ⟨r, 0, none⟩)] w fun e w' => e = .returned (.tuple #[]) ∧ Mv (fun k => k = r) w w' ∧ w'.heap.size = w.heap.size ∧ w'.heap[r]? = some (.cells (rdCells 0 true true 0 0 0 0 0) 68 (0, 0)) := by
  obtain ⟨c0, c1, c2, c3, c4, c5, f⟩ := rd_cell hr
  have f1 := f 1
  have f2 := f 2
  have HR := Lib.hid hr
  clear f hr
  go_enter Tryd.func20, Tryd.ntmps20
  go_wp2_with fail
  go_end0
  refine ⟨rfl, (mv_set _ _ _ _).trans (mv_set _ _ _ _), by simp [World.setCell], rd_ff (rd_fs HR.out true) true⟩

/-- Between two pieces. -/
def Gap (E : Env) (N : Nat) (ps : List Pc) (gk : Nat) (w : World) : Prop :=
  ∃ g o n rem fs ff mp k0 k1 k2 k3 mq at_ K l outs, l.length = gk ∧ K ≤ at_ * 10001 ∧ rem < 9223372036854775808 ∧ mp = mq % 4 ∧ St { E with L := l.length } g o n w rem fs ff mp k0 k1 k2 k3 n at_ K [] l outs ∧ Onto (.head true) [] ps outs (modeOf fs ff rem [k0, k1, k2, k3] mq) [] l
theorem St.relen {E : Env} {g o n : Nat} {w : World} {rem : Nat} {fs ff : Bool} {mp k0 k1 k2 k3 pos at_ K L : Nat} {cur : List Nat} {ps outs : List Pc} (h : St E g o n w rem fs ff mp k0 k1 k2 k3 pos at_ K cur ps outs) (hL : ps.length ≤ L) : St { E with L := L } g o n w rem fs ff mp k0 k1 k2 k3 pos at_ K cur ps outs :=
  ⟨h.below, h.size, h.rd, h.key, h.mp4, h.cl, h.left, h.here, h.len, ⟨h.told.row, h.told.lies⟩, h.cnt, h.pcs, h.nodup, h.apart, h.apartC, ⟨hL, h.short.2⟩⟩
theorem Env.Ok.relen {E : Env} (h : E.Ok) (L : Nat) : Env.Ok { E with L := L } := ⟨h.b4, h.bA, h.aLim, h.lc, h.lr, h.lp, h.lob, h.cB, h.rB, h.pB, h.obB, h.cr, h.cp, h.cob, h.rp, h.rob, h.pob, h.eof, h.tabs, h.wB⟩
/-- The next piece becomes the buffer. -/
theorem St.next {E : Env} (ok : E.Ok) {g o n : Nat} {w w' : World} {rem : Nat} {fs ff : Bool} {mp k0 k1 k2 k3 at_ K : Nat} {q : Pc} {l outs : List Pc} (h : St E g o n w rem fs ff mp k0 k1 k2 k3 n at_ K [] (q :: l) outs)
    (m : Mv (fun k => k = E.p) w w') (hb : w'.heap[E.p]? = some (.cells #[.slice (some ⟨E.A, 0, none⟩) E.N E.cap, .int .i64 ((at_ + 1 : Nat) : Int)] 71 (0, 0))) : St E q.g q.o q.xs.length w' rem fs ff mp k0 k1 k2 k3 0 (at_ + 1) K q.xs l outs := by
  obtain ⟨b4, bA, aLim, lc, lr, lp, lob, cB, rB, pB, obB, cr, cp, cob, rp, rob, pob, _, _, wB⟩ := ok
  obtain ⟨kv, xs, mm, h1, h2, h3⟩ := h.cl
  have hq := h.pcs q (by simp)
  have h0 := h.left.each 0 (by simp)
  simp only [List.getElem_cons_zero, Nat.add_zero] at h0
  have hnd := h.nodup
  simp only [List.map_cons, List.nodup_cons] at hnd
  obtain ⟨cs, t, hr⟩ := h.left.row
  refine ⟨below_mv h.below m wB (fun k hk => by omega), Nat.le_trans h.size m.size, m.same (by omega) h.rd, h.key, h.mp4, ⟨kv, xs, mm, h1, h2.keep (m.block _ h2.lt (by omega)), own_mv h3 m (fun k e hx => by have := (h3.lt _ e).1; omega)⟩, ⟨hb, ⟨cs, t, m.same (by omega) hr⟩, by have := h.left.len; simp at this ⊢; omega, h.left.most, fun i hi => ?_⟩, ?_, by simp, h.told.mv' m obB (fun k hk => by omega), h.cnt, fun x hx => ?_, hnd.2, fun x hx y hy => h.apart x hx y (by simp [hy]), fun x hx hxn hcn => ?_, ?_⟩
  · have hi2 := h.left.each (i + 1) (by simpa using hi)
    simp only [List.getElem_cons_succ] at hi2
    have hx := h.pcs l[i] (by simp)
    refine ⟨?_, hi2.lie.mv m (by omega), hi2.cap⟩
    rw [show at_ + 1 + i = at_ + (i + 1) by omega]
    exact m.cell hi2.cell (by omega)
  · rw [Nat.add_zero]; exact h0.lie.mv m (by omega)
  · have hx' := h.pcs x (by simp [hx])
    exact ⟨hx'.1, hx'.2.1, hx'.2.2.1, fun e => hnd.1 (by rw [← e]; exact List.mem_map_of_mem hx)⟩
  · have := h.apart x hx q (by simp) hxn hcn
    rw [Nat.add_zero]; exact this
  · exact ⟨by have := h.short.1; simp at this; omega, fun y hy => h.short.2 y (by simp [hy])⟩

/-- What ReadFrames tells: the data, how it was closed, an error. -/
def FramesPost (E : Env) (ps : List Pc) (e : Ending) (w' : World) : Prop :=
  ∃ (v kv ev : Value) (st : Nat) (outs : List Pc) (ok : Bool), e = .returned (.tuple #[v, kv, .int .i64 st, ev]) ∧ Below E.B E.w0 w' ∧ w'.ownsRow E.BO 52 1 v outs.length (outs.map Pc.val) ∧ (∀ x ∈ outs, Lie w' x.g x.o x.xs) ∧
    Frm.Run vld (.head true) [] (ps.map (·.xs)) (outs.map (·.xs), st, ok) ∧ ((ev = .nilIface ∧ st = 0 ∧ ok = true) ∨ (∃ a, ev = errV a ∧ ok = decide (st ≠ 0)))

theorem gap_start {B A N cap : Nat} {ps : List Pc} {w w1 : World} {qe : Addr} {E : Env} (hEE : (⟨B, w.heap.size, w.heap.size + 4, w.heap.size, w.heap.size + 1, w.heap.size + 2, A, N, cap, w.heap.size + 2 + 1, w, qe, 0⟩ : Env) = E) (hBw : B ≤ w.heap.size) (hAl : A < w.heap.size)
    (hrow : ∃ cs t, w.heap[A]? = some (.cells cs t (0, 0))) (hN : ps.length = N) (hN2 : N < 14) (hps : ∀ i (h : i < ps.length), PcAt w A i ps[i]) (hg : ∀ q ∈ ps, B ≤ q.g ∧ q.g < w.heap.size ∧ q.g ≠ A ∧ q.xs.length ≤ 5000) (hnd : (ps.map (·.g)).Nodup)
    (hm : Mv (fun k => k = w.heap.size + 1) ((w.alloc (.cells cs63 63)).alloc (.cells (rdCells 0 false false 0 0 0 0 0) 68)) w1) (hr : w1.heap[w.heap.size + 1]? = some (.cells (rdCells 0 true true 0 0 0 0 0) 68 (0, 0))) (hsz : w1.heap.size = w.heap.size + 2) :
    Gap E N ps ps.length ((w1.alloc (.cells #[.slice (some ⟨A, 0, none⟩) N cap, .int .i64 0] 71)).alloc (.cells #[.slice none 0 0] 45)) := by
  subst hEE
  obtain ⟨W3, hW3⟩ : ∃ W3, (w1.alloc (.cells #[.slice (some ⟨A, 0, none⟩) N cap, .int .i64 0] 71)).alloc (.cells #[.slice none 0 0] 45) = W3 := ⟨_, rfl⟩
  rw [hW3]
  have b1 : Mv (fun k => k = w.heap.size + 1) w w1 := (((Mv.refl _ w).alloc _).alloc _).trans hm
  have b2 : Below w1.heap.size w1 W3 := by rw [← hW3]; exact ((Below.refl _ _).alloc (Nat.le_refl _) _).alloc (by simp) _
  have b3 : Mv (fun k => k = w.heap.size + 1) w W3 := b1.trans (Mv.below b2)
  have old : ∀ k, k < w.heap.size → W3.heap[k]? = w.heap[k]? := fun k hk => b3.block k hk (by omega)
  have hp : W3.heap[w.heap.size + 2]? = some (.cells #[.slice (some ⟨A, 0, none⟩) N cap, .int .i64 0] 71 (0, 0)) := by
    have h1 := heap_alloc_new w1 (.cells #[.slice (some ⟨A, 0, none⟩) N cap, .int .i64 0] 71)
    rw [hsz] at h1
    rw [← hW3]
    exact (Below.heap_alloc _ _ _ (by simp; omega)).trans h1
  have hob : W3.heap[w.heap.size + 3]? = some (.cells #[.slice none 0 0] 45 (0, 0)) := by
    have h1 := heap_alloc_new (w1.alloc (.cells #[.slice (some ⟨A, 0, none⟩) N cap, .int .i64 0] 71)) (.cells #[.slice none 0 0] 45)
    rw [hW3] at h1
    have e : (w1.alloc (.cells #[.slice (some ⟨A, 0, none⟩) N cap, .int .i64 0] 71)).heap.size = w.heap.size + 3 := by simp [hsz]
    rw [e] at h1
    exact h1
  have hcl : W3.heap[w.heap.size]? = some (.cells cs63 63 (0, 0)) := by
    have h1 := heap_alloc_new w (.cells cs63 63)
    have h2 : ((w.alloc (.cells cs63 63)).alloc (.cells (rdCells 0 false false 0 0 0 0 0) 68)).heap[w.heap.size]? = some (.cells cs63 63 (0, 0)) := (Below.heap_alloc _ _ _ (by simp)).trans h1
    exact (b2.block _ (by omega)).trans ((hm.block _ (by simp; omega) (by omega)).trans h2)
  refine ⟨w.heap.size + 2, 0, 0, 0, true, true, 0, 0, 0, 0, 0, 0, 0, 0, ps, [], rfl, by omega, by omega, rfl, ⟨⟨b3.os, b3.tape, b3.output, b3.size, fun k hk => old k (by show k < w.heap.size; have : k < B := hk; omega)⟩, ?_, (b2.block (w.heap.size + 1) (by omega)).trans hr, ⟨by decide, by decide, by decide, by decide⟩, by omega, ⟨.slice none 0 0, [], 0, Nat.le_refl _, ⟨cs63, hcl, cs63_kept, cs63_closed⟩, World.ownsRow_nil _ _ _ _⟩, ⟨hp, ?_, by show 0 + ps.length = N; omega, by show N < 1000; omega, fun i hi => ?_⟩, fun i hi => by simp at hi, rfl, ⟨⟨_, hob, World.ownsRow_nil _ _ _ _⟩, by simp⟩, by simp, fun q hq => ?_, hnd, by simp, by simp, ⟨Nat.le_refl _, fun q hq => (hg q hq).2.2.2⟩⟩, fun res hr => ?_⟩
  · show w.heap.size + 4 ≤ W3.heap.size
    rw [← hW3]; simp; omega
  · obtain ⟨cs, t, h⟩ := hrow
    exact ⟨cs, t, (old A hAl).trans h⟩
  · rw [Nat.zero_add]
    have h1 := hps i hi
    refine ⟨?_, h1.lie.bent (fun hl => old _ hl), h1.cap⟩
    rw [World.cell?_of_block (w := w) (old A hAl)]; exact h1.cell
  · have := hg q hq
    exact ⟨this.1, this.2.1, this.2.2.1, by omega⟩
  · simpa [modeOf] using hr

theorem frames_any (A N cap : Nat) (ps : List Pc) (w : World) (qe : Addr) (B : Nat) (hB : 4 ≤ B) (hBA : B ≤ A) (hE : w.cell? ⟨1, 0, none⟩ = some (errV qe)) (hT : Lib.Utf8Tabs 2 3 w)
    (hrow : ∃ cs t, w.heap[A]? = some (.cells cs t (0, 0))) (hN : ps.length = N) (hN2 : N < 14) (hps : ∀ i (h : i < ps.length), PcAt w A i ps[i]) (hg : ∀ q ∈ ps, B ≤ q.g ∧ q.g < w.heap.size ∧ q.g ≠ A ∧ q.xs.length ≤ 5000) (hnd : (ps.map (·.g)).Nodup) :
    Calls Tryd.prog 18 #[.slice (some ⟨A, 0, none⟩) N cap] w fun e w' => ∃ BO, FramesPost ⟨B, w.heap.size, BO, w.heap.size, w.heap.size + 1, w.heap.size + 2, A, N, cap, w.heap.size + 2 + 1, w, qe, 0⟩ ps e w' := by
  have HE := Lib.hid hE
  have HT := Lib.hid hT
  have HROW := Lib.hid hrow
  have HPS := Lib.hid hps
  have HG := Lib.hid hg
  have HND := Lib.hid hnd
  have HN := Lib.hid hN
  have hAl : A < w.heap.size := by obtain ⟨cs, t, h⟩ := hrow; exact Lib.lt_of_heap h
  have z := zero63
  have zne := cs63_ne
  obtain ⟨E, hEE⟩ : ∃ E : Env, (⟨B, w.heap.size, w.heap.size + 4, w.heap.size, w.heap.size + 1, w.heap.size + 2, A, N, cap, w.heap.size + 2 + 1, w, qe, 0⟩ : Env) = E := ⟨_, rfl⟩
  have hok : E.Ok := by
    subst hEE
    exact ⟨hB, hBA, hAl, Nat.le_refl _, by dsimp only; omega, by dsimp only; omega, by dsimp only; omega, by dsimp only; omega, by dsimp only; omega, by dsimp only; omega, by dsimp only; omega, by dsimp only; omega, by dsimp only; omega, by dsimp only; omega, by dsimp only; omega, by dsimp only; omega, by dsimp only; omega, hE, hT, by dsimp only; omega⟩
  have HOK := Lib.hid hok
  have HEE := Lib.hid hEE
  have HOK_B : B ≤ w.heap.size := by omega
  clear hE hT hrow hps hg hnd hN hok hEE
  go_enter Tryd.func18, Tryd.ntmps18
  go_wp2_with fail
  refine (init_any (w.heap.size + 1) _ (by have := alloc2_new w (.cells cs63 63) (.cells (rdCells 0 false false 0 0 0 0 0) 68); exact this)).mono ?_
  rintro e w1 ⟨rfl, hm, hsz, hr⟩
  have hsz1 : w1.heap.size = w.heap.size + 2 := by rw [hsz]; simp
  have HM := Lib.hid hm
  have HR := Lib.hid hr
  clear hm hr hsz z zne
  have hgs := gap_start HEE.out HOK_B hAl HROW.out HN.out hN2 HPS.out HG.out HND.out HM.out HR.out hsz1
  have HGS := Lib.hid hgs
  clear hgs
  go_wp2_with fail
  go_loopg [] ps.length (fun gk w' => Hid (Gap E N ps gk w'))
  case atStart => exact HGS
  case round =>
    obtain ⟨g, o, n, rem, fs, ff, mp, k0, k1, k2, k3, mq, at_, K, l, outs, hl, hK, hrem, hmq, hst, hon⟩ := hrel.out
    have HST := Lib.hid hst
    have HON := Lib.hid hon
    have HMQ := Lib.hid hmq
    have HREM := Lib.hid hrem
    have eA : E.A = A := by rw [← HEE.out]
    have eN : E.N = N := by rw [← HEE.out]
    have eC : E.cap = cap := by rw [← HEE.out]
    have ep : E.p = w.heap.size + 2 := by rw [← HEE.out]
    have ec : E.c = w.heap.size := by rw [← HEE.out]
    have er : E.r = w.heap.size + 1 := by rw [← HEE.out]
    have eob : E.ob = w.heap.size + 3 := by rw [← HEE.out]
    have hblk : wr.heap[w.heap.size + 2]? = some (.cells #[.slice (some ⟨A, 0, none⟩) N cap, .int .i64 at_] 71 (0, 0)) := by
      have := hst.left.blk
      rw [show ({ E with L := l.length } : Env).p = w.heap.size + 2 from ep, show ({ E with L := l.length } : Env).A = A from eA, show ({ E with L := l.length } : Env).N = N from eN, show ({ E with L := l.length } : Env).cap = cap from eC] at this
      exact this
    have hlen : at_ + l.length = N := by have := hst.left.len; rw [show ({ E with L := l.length } : Env).N = N from eN] at this; exact this
    have c0 : wr.cell? ⟨w.heap.size + 2, 0, none⟩ = some (.slice (some ⟨A, 0, none⟩) N cap) := by rw [Lib.cell_of_heap hblk]; rfl
    have c1 : wr.cell? ⟨w.heap.size + 2, 1, none⟩ = some (.int .i64 at_) := by rw [Lib.cell_of_heap hblk]; rfl
    have f1 : wr.frozen? ⟨w.heap.size + 2, 1, none⟩ = false := Lib.frozen_of_heap hblk _
    have EA := Lib.hid (And.intro eA (And.intro eN (And.intro eC (And.intro ep (And.intro ec (And.intro er eob))))))
    have HBLK := Lib.hid hblk
    clear hst hon hmq hrem hrel eA eN eC ep ec er eob hblk
    match l, hl, hlen, HST, HON with
    | [], hl, hlen, HST, HON =>
      have d1 : decide ((at_ : Int) < (N : Int)) = false := decide_eq_false (by simp at hlen; omega)
      have d2 : decide (at_ < N) = false := decide_eq_false (by simp at hlen; omega)
      obtain ⟨v, hv1, hv2⟩ := HST.out.told.row
      obtain ⟨kv, xs, mm, _, hc, _⟩ := HST.out.cl
      have cob : wr.cell? ⟨w.heap.size + 2 + 1, 0, none⟩ = some v := by
        have e : ({ E with L := ([] : List Pc).length } : Env).ob = w.heap.size + 2 + 1 := EA.out.2.2.2.2.2.2
        rw [← e, Lib.cell_of_heap hv1]; rfl
      have ck : wr.cell? ⟨w.heap.size, 4128, none⟩ = some kv := by rw [← EA.out.2.2.2.2.1]; exact hc.cell.1
      have cc : wr.cell? ⟨w.heap.size, 4129, none⟩ = some (.int .i64 0) := by rw [← EA.out.2.2.2.2.1]; exact hc.cell.2
      have HV := Lib.hid hv2
      clear hv1 hv2 hc
      go_wp2_with fail
      go_quiet (fail)
      go_wp2_with fail
      go_quiet (fail)
      go_wp2_with fail
      refine bodyPost_ret (v := .tuple #[v, kv, .int .i64 0, .nilIface]) (by simp [results, Tryd.results18, go_sem]) rfl ⟨w.heap.size + 4, ?_⟩
      rw [HEE.out]
      have hr := HON.out ([], 0, true) (Frm.Run.done _)
      simp only [List.append_nil] at hr
      have hS := fun a b => HST.out.fin.bent (HOK.out.relen _) (show Below wr.heap.size wr ((wr.drewN a).drewN b) from ⟨rfl, rfl, rfl, Nat.le_refl _, fun _ _ => rfl⟩)
      exact ⟨v, kv, _, 0, outs, true, rfl, (hS _ _).below, HV.out, fun x hx => ((hS _ _).outs.lies x hx).1, hr, Or.inl ⟨rfl, rfl, rfl⟩⟩
    | q :: l, hl, hlen, HST, HON =>
      have d1 : decide ((at_ : Int) < (N : Int)) = true := decide_eq_true (by simp at hlen; omega)
      have d2 : decide (at_ < N) = true := decide_eq_true (by simp at hlen; omega)
      have hN3 : at_ < N := by simp at hlen; omega
      have c2 : wr.cell? ⟨A, at_, none⟩ = some (.slice (some ⟨q.g, q.o, none⟩) q.xs.length q.c) := by
        have h0 := (HST.out.left.each 0 (by simp)).cell
        simp only [List.getElem_cons_zero, Nat.add_zero] at h0
        rw [← EA.out.1]; exact h0
      go_wp2_with fail
      go_quiet (fail)
      go_wp2_with fail
      go_quiet (fail)
      go_wp2_with fail
      generalize hW0 : World.drewN wr _ = W0
      have hS0 : St { E with L := (q :: l).length } g o n W0 rem fs ff mp k0 k1 k2 k3 n at_ K [] (q :: l) outs := HST.out.grow (HOK.out.relen _) (by rw [← hW0]; exact ⟨rfl, rfl, rfl, Nat.le_refl _, fun _ _ => rfl⟩)
      have hb0 : W0.heap[w.heap.size + 2]? = some (.cells #[.slice (some ⟨A, 0, none⟩) N cap, .int .i64 at_] 71 (0, 0)) := by rw [← hW0]; exact HBLK.out
      obtain ⟨W, hW⟩ : ∃ W, W0.setCell ⟨w.heap.size + 2, 1, none⟩ (.int .i64 ((at_ + 1 : Nat) : Int)) = W := ⟨_, rfl⟩
      have hS1 : St { E with L := l.length } q.g q.o q.xs.length W rem fs ff mp k0 k1 k2 k3 0 (at_ + 1) K q.xs l outs := by
        have e4 := EA.out.2.2.2.1
        refine (St.next (HOK.out.relen _) hS0 (w' := W) ?_ ?_).relen (Nat.le_refl _)
        · show Mv (fun k => k = E.p) W0 W
          rw [← hW, e4]
          exact mv_set _ _ _ _
        · show W.heap[E.p]? = some (.cells #[.slice (some ⟨E.A, 0, none⟩) E.N E.cap, .int .i64 ((at_ + 1 : Nat) : Int)] 71 (0, 0))
          rw [e4, EA.out.1, EA.out.2.1, EA.out.2.2.1, ← hW, setCell_heap hb0]
          rfl
      have hsmall := HST.out.short.2 q (by simp)
      have hpq := HST.out.pcs q (by simp)
      have hcap := (HST.out.left.each 0 (by simp)).cap
      simp only [List.getElem_cons_zero] at hcap
      obtain ⟨R, hR⟩ : ∃ R : Ending → World → Prop, R = fun e w' => LoopPost { E with L := l.length } q.g q.o q.xs.length (modeOf fs ff rem [k0, k1, k2, k3] mq) q.xs l outs (K + 2 * q.xs.length + 1) e w' := ⟨_, rfl⟩
      have hcall : Calls Tryd.prog 21 #[.pointer (some ⟨E.c, 0, none⟩), .pointer (some ⟨E.r, 0, none⟩), .iface 69 (.pointer (some ⟨E.p, 0, none⟩)), .slice (some ⟨q.g, q.o, none⟩) q.xs.length q.c, .func (.func 22) #[] #[.pointer (some ⟨E.ob, 0, none⟩)]] W R := by
        rw [hR]
        exact loop_any { E with L := l.length } (HOK.out.relen _) q.g q.o q.xs.length q.c rem fs ff mp k0 k1 k2 k3 mq (at_ + 1) K q.xs l outs W hS1 HMQ.out HREM.out hcap (by omega) (by simp at hlen; omega) ⟨hpq.1, hpq.2.1, hpq.2.2.1⟩
      have eob : E.ob = w.heap.size + 2 + 1 := EA.out.2.2.2.2.2.2
      rw [EA.out.2.2.2.2.1, EA.out.2.2.2.2.2.1, EA.out.2.2.2.1, eob, hR] at hcall
      clear hR eob
      have HCALL := Lib.hid hcall
      have hW2 : W0.setCell ⟨w.heap.size + 2, 1, none⟩ (.int .i64 ((at_ : Int) + 1)) = W := hW
      rw [hW2]
      clear hcall hS0 hb0 hS1 hW hW2 c0 c1 c2 f1 hW0 hcap
      refine HCALL.out.mono ?_
      rintro e w' hpost
      rcases hpost with ⟨rfl, rem', fs', ff', mp', l0, l1, l2, l3, mq', at', K', ps', o1, hK', hrem', hmq', hs', hon'⟩ | ⟨a, st, o1, rfl, hf, hrun⟩
      · have hshort := hs'.short.1
        have hl' : at' + ps'.length = N := by have := hs'.left.len; rw [show ({ E with L := l.length } : Env).N = N from EA.out.2.1] at this; exact this
        have H1 : Hid (Gap E N ps ps'.length w') := Lib.hid ⟨q.g, q.o, q.xs.length, rem', fs', ff', mp', l0, l1, l2, l3, mq', at', K', ps', outs ++ o1, rfl, by
            have : K' ≤ K + 2 * q.xs.length + 1 := hK'
            have h3 : at_ + 1 ≤ at' := by simp at hlen; have : ps'.length ≤ l.length := hshort; omega
            have : (at_ + 1) * 10001 ≤ at' * 10001 := Nat.mul_le_mul_right _ h3
            omega, hrem', hmq', hs'.relen (Nat.le_refl _), fun res hr => by
            have h1 := hon' res hr
            have h2 := HON.out _ (Frm.Run.next _ _ _ _ h1)
            simpa using h2⟩
        have hlt : ps'.length < gk := by have : ps'.length ≤ l.length := hshort; simp at hl; omega
        clear hs' hon' hK' hmq'
        go_wp2_with fail
        go_roundg ps'.length
        case measure => exact hlt
        case rel => exact H1
      · obtain ⟨v, hv1, hv2⟩ := hf.outs.row
        obtain ⟨kv, hc⟩ := hf.cl
        have cob : w'.cell? ⟨w.heap.size + 2 + 1, 0, none⟩ = some v := by
          have e : ({ E with L := l.length } : Env).ob = w.heap.size + 2 + 1 := EA.out.2.2.2.2.2.2
          rw [← e, Lib.cell_of_heap hv1]; rfl
        have ck : w'.cell? ⟨w.heap.size, 4128, none⟩ = some kv := by rw [← EA.out.2.2.2.2.1]; exact hc.cell.1
        have cc : w'.cell? ⟨w.heap.size, 4129, none⟩ = some (.int .i64 st) := by rw [← EA.out.2.2.2.2.1]; exact hc.cell.2
        have HV := Lib.hid hv2
        have HF := Lib.hid hf
        have HRUN := Lib.hid hrun
        clear hv1 hv2 hc hf hrun
        go_wp2_with fail
        go_quiet (fail)
        go_wp2_with fail
        refine bodyPost_ret (v := .tuple #[v, kv, .int .i64 st, errV a]) (by simp [results, Tryd.results18, go_sem]) rfl ⟨w.heap.size + 4, ?_⟩
        rw [HEE.out]
        have hr := HON.out _ (Frm.Run.next _ _ _ _ HRUN.out)
        have hS := fun a => HF.out.bent (HOK.out.relen _) (show Below w'.heap.size w' (w'.drewN a) from ⟨rfl, rfl, rfl, Nat.le_refl _, fun _ _ => rfl⟩)
        exact ⟨v, kv, _, st, outs ++ o1, decide (st ≠ 0), rfl, (hS _).below, HV.out, fun x hx => ((hS _).outs.lies x hx).1, by simpa using hr, Or.inr ⟨a, rfl, rfl⟩⟩
end Go.Proofs.YtbldebfjgccadaaDoor
