/- The walk of ReadFrames. -/
import Derived.Test.YtbldebfjgccadaaDoorFrS
import Derived.Test.YtbldebfjgccadaaDoorFrG
import Derived.Test.YtbldebfjgccadaaDoorPFnFramesCutsx1
import Derived.Test.YtbldebfjgccadaaDoorRows
import Derived.ProofKit
import Derived.OpenShut
import Derived.LaidMore
import Derived.Stop.Joined
import Derived.Stop.LaidErr
import Derived.Lib.LaidU8T
namespace Go.Proofs.YtbldebfjgccadaaDoor
open Go.RowKit
attribute [local go_sem ↓] Go.wp_at_zero Go.wp_at_succ
set_option linter.unusedVariables false
set_option linter.unusedSimpArgs false
set_option maxHeartbeats 8000000
set_option maxRecDepth 1000000

noncomputable def cs63 : Array Value := match Tryd.prog.info? 63 with
  | some i => match i.zero with
    | some (.agg cs) => cs
    | _ => #[]
  | none => #[]
theorem zero63 : ∀ w, (zeroValue 63).run Tryd.prog w = .ok (.agg cs63) w := fun w => by kernel_rfl
theorem cs63_size : cs63.size = 4130 := by kernel_rfl
theorem cs63_kept : cs63[4128]? = some (.slice none 0 0) := by kernel_rfl
theorem cs63_closed : cs63[4129]? = some (.int .i64 0) := by kernel_rfl
theorem cs63_ne : ¬ cs63 = #[] := fun e => by have := cs63_size; rw [e] at this; cases this

theorem init_any (r : Nat) (w : World) (hr : w.heap[r]? = some (.cells (rdCells 0 false false 0 0 0 0 0) 68 (0, 0))) :
    Calls Tryd.prog 20 #[.pointer (some ⟨r, 0, none⟩)] w fun e w' => e = .returned (.tuple #[]) ∧ Mv (fun k => k = r) w w' ∧ w'.heap.size = w.heap.size ∧ w'.heap[r]? = some (.cells (rdCells 0 true true 0 0 0 0 0) 68 (0, 0)) := by
  obtain ⟨c0, c1, c2, c3, c4, c5, f⟩ := rd_cell hr
  have f1 := f 1
  have f2 := f 2
  have HR := Lib.hid hr
  clear f hr
  go_enter Tryd.func20, Tryd.ntmps20
  go_wp2_with fail
  go_end0
  refine ⟨rfl, (mv_set _ _ _ _).trans (mv_set _ _ _ _), by simp [World.setCell], rd_ff (rd_fs HR.out true) true⟩

/-- Between two pieces. -/
def Gap (E : Env) (N : Nat) (ps : List Pc) (gk : Nat) (w : World) : Prop :=
  ∃ g o n rem fs ff mp k0 k1 k2 k3 mq at_ K l outs, l.length = gk ∧ K ≤ at_ * 10001 ∧ rem < 9223372036854775808 ∧ mp = mq % 4 ∧ St { E with L := l.length } g o n w rem fs ff mp k0 k1 k2 k3 n at_ K [] l outs ∧ Onto (.head true) [] ps outs (modeOf fs ff rem [k0, k1, k2, k3] mq) [] l
theorem St.relen {E : Env} {g o n : Nat} {w : World} {rem : Nat} {fs ff : Bool} {mp k0 k1 k2 k3 pos at_ K L : Nat} {cur : List Nat} {ps outs : List Pc} (h : St E g o n w rem fs ff mp k0 k1 k2 k3 pos at_ K cur ps outs) (hL : ps.length ≤ L) : St { E with L := L } g o n w rem fs ff mp k0 k1 k2 k3 pos at_ K cur ps outs :=
  ⟨h.below, h.size, h.rd, h.key, h.mp4, h.cl, h.left, h.here, h.len, ⟨h.told.row, h.told.lies⟩, h.cnt, h.pcs, h.nodup, h.apart, h.apartC, ⟨hL, h.short.2⟩⟩
theorem Env.Ok.relen {E : Env} (h : E.Ok) (L : Nat) : Env.Ok { E with L := L } := ⟨h.b4, h.bA, h.aLim, h.lc, h.lr, h.lp, h.lob, h.cB, h.rB, h.pB, h.obB, h.cr, h.cp, h.cob, h.rp, h.rob, h.pob, h.eof, h.tabs, h.wB⟩
/-- The next piece becomes the buffer. -/
theorem St.next {E : Env} (ok : E.Ok) {g o n : Nat} {w w' : World} {rem : Nat} {fs ff : Bool} {mp k0 k1 k2 k3 at_ K : Nat} {q : Pc} {l outs : List Pc} (h : St E g o n w rem fs ff mp k0 k1 k2 k3 n at_ K [] (q :: l) outs)
    (m : Mv (fun k => k = E.p) w w') (hb : w'.heap[E.p]? = some (.cells #[.slice (some ⟨E.A, 0, none⟩) E.N E.cap, .int .i64 ((at_ + 1 : Nat) : Int)] 71 (0, 0))) : St E q.g q.o q.xs.length w' rem fs ff mp k0 k1 k2 k3 0 (at_ + 1) K q.xs l outs := by
  obtain ⟨b4, bA, aLim, lc, lr, lp, lob, cB, rB, pB, obB, cr, cp, cob, rp, rob, pob, _, _, wB⟩ := ok
  obtain ⟨kv, xs, mm, h1, h2, h3⟩ := h.cl
  have hq := h.pcs q (by simp)
  have h0 := h.left.each 0 (by simp)
  simp only [List.getElem_cons_zero, Nat.add_zero] at h0
  have hnd := h.nodup
  simp only [List.map_cons, List.nodup_cons] at hnd
  obtain ⟨cs, t, hr⟩ := h.left.row
  refine ⟨below_mv h.below m wB (fun k hk => by omega), Nat.le_trans h.size m.size, m.same (by omega) h.rd, h.key, h.mp4, ⟨kv, xs, mm, h1, h2.keep (m.block _ h2.lt (by omega)), own_mv h3 m (fun k e hx => by have := (h3.lt _ e).1; omega)⟩, ⟨hb, ⟨cs, t, m.same (by omega) hr⟩, by have := h.left.len; simp at this ⊢; omega, h.left.most, fun i hi => ?_⟩, ?_, by simp, h.told.mv' m obB (fun k hk => by omega), h.cnt, fun x hx => ?_, hnd.2, fun x hx y hy => h.apart x hx y (by simp [hy]), fun x hx hxn hcn => ?_, ?_⟩
  · have hi2 := h.left.each (i + 1) (by simpa using hi)
    simp only [List.getElem_cons_succ] at hi2
    have hx := h.pcs l[i] (by simp)
    refine ⟨?_, hi2.lie.mv m (by omega), hi2.cap⟩
    rw [show at_ + 1 + i = at_ + (i + 1) by omega]
    exact m.cell hi2.cell (by omega)
  · rw [Nat.add_zero]; exact h0.lie.mv m (by omega)
  · have hx' := h.pcs x (by simp [hx])
    exact ⟨hx'.1, hx'.2.1, hx'.2.2.1, fun e => hnd.1 (by rw [← e]; exact List.mem_map_of_mem hx)⟩
  · have := h.apart x hx q (by simp) hxn hcn
    rw [Nat.add_zero]; exact this
  · exact ⟨by have := h.short.1; simp at this; omega, fun y hy => h.short.2 y (by simp [hy])⟩

/-- What ReadFrames tells: the data, how it was closed, an error. -/
def FramesPost (E : Env) (ps : List Pc) (e : Ending) (w' : World) : Prop :=
  ∃ (v kv ev : Value) (st : Nat) (outs : List Pc) (ok : Bool), e = .returned (.tuple #[v, kv, .int .i64 st, ev]) ∧ Below E.B E.w0 w' ∧ w'.ownsRow E.BO 52 1 v outs.length (outs.map Pc.val) ∧ (∀ x ∈ outs, Lie w' x.g x.o x.xs) ∧
    Frm.Run vld (.head true) [] (ps.map (·.xs)) (outs.map (·.xs), st, ok) ∧ ((ev = .nilIface ∧ st = 0 ∧ ok = true) ∨ (∃ a, ev = errV a ∧ ok = decide (st ≠ 0)))

theorem gap_start {B A N cap : Nat} {ps : List Pc} {w w1 : World} {qe : Addr} {E : Env} (hEE : (⟨B, w.heap.size, w.heap.size + 4, w.heap.size, w.heap.size + 1, w.heap.size + 2, A, N, cap, w.heap.size + 2 + 1, w, qe, 0⟩ : Env) = E) (hBw : B ≤ w.heap.size) (hAl : A < w.heap.size)
    (hrow : ∃ cs t, w.heap[A]? = some (.cells cs t (0, 0))) (hN : ps.length = N) (hN2 : N < 14) (hps : ∀ i (h : i < ps.length), PcAt w A i ps[i]) (hg : ∀ q ∈ ps, B ≤ q.g ∧ q.g < w.heap.size ∧ q.g ≠ A ∧ q.xs.length ≤ 5000) (hnd : (ps.map (·.g)).Nodup)
    (hm : Mv (fun k => k = w.heap.size + 1) ((w.alloc (.cells cs63 63)).alloc (.cells (rdCells 0 false false 0 0 0 0 0) 68)) w1) (hr : w1.heap[w.heap.size + 1]? = some (.cells (rdCells 0 true true 0 0 0 0 0) 68 (0, 0))) (hsz : w1.heap.size = w.heap.size + 2) :
    Gap E N ps ps.length ((w1.alloc (.cells #[.slice (some ⟨A, 0, none⟩) N cap, .int .i64 0] 71)).alloc (.cells #[.slice none 0 0] 45)) := by
  subst hEE
  obtain ⟨W3, hW3⟩ : ∃ W3, (w1.alloc (.cells #[.slice (some ⟨A, 0, none⟩) N cap, .int .i64 0] 71)).alloc (.cells #[.slice none 0 0] 45) = W3 := ⟨_, rfl⟩
  rw [hW3]
  have b1 : Mv (fun k => k = w.heap.size + 1) w w1 := (((Mv.refl _ w).alloc _).alloc _).trans hm
  have b2 : Below w1.heap.size w1 W3 := by rw [← hW3]; exact ((Below.refl _ _).alloc (Nat.le_refl _) _).alloc (by simp) _
  have b3 : Mv (fun k => k = w.heap.size + 1) w W3 := b1.trans (Mv.below b2)
  have old : ∀ k, k < w.heap.size → W3.heap[k]? = w.heap[k]? := fun k hk => b3.block k hk (by omega)
  have hp : W3.heap[w.heap.size + 2]? = some (.cells #[.slice (some ⟨A, 0, none⟩) N cap, .int .i64 0] 71 (0, 0)) := by
    have h1 := heap_alloc_new w1 (.cells #[.slice (some ⟨A, 0, none⟩) N cap, .int .i64 0] 71)
    rw [hsz] at h1
    rw [← hW3]
    exact (Below.heap_alloc _ _ _ (by simp; omega)).trans h1
  have hob : W3.heap[w.heap.size + 3]? = some (.cells #[.slice none 0 0] 45 (0, 0)) := by
    have h1 := heap_alloc_new (w1.alloc (.cells #[.slice (some ⟨A, 0, none⟩) N cap, .int .i64 0] 71)) (.cells #[.slice none 0 0] 45)
    rw [hW3] at h1
    have e : (w1.alloc (.cells #[.slice (some ⟨A, 0, none⟩) N cap, .int .i64 0] 71)).heap.size = w.heap.size + 3 := by simp [hsz]
    rw [e] at h1
    exact h1
  have hcl : W3.heap[w.heap.size]? = some (.cells cs63 63 (0, 0)) := by
    have h1 := heap_alloc_new w (.cells cs63 63)
    have h2 : ((w.alloc (.cells cs63 63)).alloc (.cells (rdCells 0 false false 0 0 0 0 0) 68)).heap[w.heap.size]? = some (.cells cs63 63 (0, 0)) := (Below.heap_alloc _ _ _ (by simp)).trans h1
    exact (b2.block _ (by omega)).trans ((hm.block _ (by simp; omega) (by omega)).trans h2)
  refine ⟨w.heap.size + 2, 0, 0, 0, true, true, 0, 0, 0, 0, 0, 0, 0, 0, ps, [], rfl, by omega, by omega, rfl, ⟨⟨b3.os, b3.tape, b3.output, b3.size, fun k hk => old k (by show k < w.heap.size; have : k < B := hk; omega)⟩, ?_, (b2.block (w.heap.size + 1) (by omega)).trans hr, ⟨by decide, by decide, by decide, by decide⟩, by omega, ⟨.slice none 0 0, [], 0, Nat.le_refl _, ⟨cs63, hcl, cs63_kept, cs63_closed⟩, World.ownsRow_nil _ _ _ _⟩, ⟨hp, ?_, by show 0 + ps.length = N; omega, by show N < 1000; omega, fun i hi => ?_⟩, fun i hi => by simp at hi, rfl, ⟨⟨_, hob, World.ownsRow_nil _ _ _ _⟩, by simp⟩, by simp, fun q hq => ?_, hnd, by simp, by simp, ⟨Nat.le_refl _, fun q hq => (hg q hq).2.2.2⟩⟩, fun res hr => ?_⟩
  · show w.heap.size + 4 ≤ W3.heap.size
    rw [← hW3]; simp; omega
  · obtain ⟨cs, t, h⟩ := hrow
    exact ⟨cs, t, (old A hAl).trans h⟩
  · rw [Nat.zero_add]
    have h1 := hps i hi
    refine ⟨?_, h1.lie.bent (fun hl => old _ hl), h1.cap⟩
    rw [World.cell?_of_block (w := w) (old A hAl)]; exact h1.cell
  · have := hg q hq
    exact ⟨this.1, this.2.1, this.2.2.1, by omega⟩
  · simpa [modeOf] using hr

theorem frames_any (A N cap : Nat) (ps : List Pc) (w : World) (qe : Addr) (B : Nat) (hB : 4 ≤ B) (hBA : B ≤ A) (hE : w.cell? ⟨1, 0, none⟩ = some (errV qe)) (hT : Lib.Utf8Tabs 2 3 w)
    (hrow : ∃ cs t, w.heap[A]? = some (.cells cs t (0, 0))) (hN : ps.length = N) (hN2 : N < 14) (hps : ∀ i (h : i < ps.length), PcAt w A i ps[i]) (hg : ∀ q ∈ ps, B ≤ q.g ∧ q.g < w.heap.size ∧ q.g ≠ A ∧ q.xs.length ≤ 5000) (hnd : (ps.map (·.g)).Nodup) :
    Calls Tryd.prog 18 #[.slice (some ⟨A, 0, none⟩) N cap] w fun e w' => ∃ BO, FramesPost ⟨B, w.heap.size, BO, w.heap.size, w.heap.size + 1, w.heap.size + 2, A, N, cap, w.heap.size + 2 + 1, w, qe, 0⟩ ps e w' := by
  have HE := Lib.hid hE
  have HT := Lib.hid hT
  have HROW := Lib.hid hrow
  have HPS := Lib.hid hps
  have HG := Lib.hid hg
  have HND := Lib.hid hnd
  have HN := Lib.hid hN
  have hAl : A < w.heap.size := by obtain ⟨cs, t, h⟩ := hrow; exact Lib.lt_of_heap h
  have z := zero63
  have zne := cs63_ne
  obtain ⟨E, hEE⟩ : ∃ E : Env, (⟨B, w.heap.size, w.heap.size + 4, w.heap.size, w.heap.size + 1, w.heap.size + 2, A, N, cap, w.heap.size + 2 + 1, w, qe, 0⟩ : Env) = E := ⟨_, rfl⟩
  have hok : E.Ok := by
    subst hEE
    exact ⟨hB, hBA, hAl, Nat.le_refl _, by dsimp only; omega, by dsimp only; omega, by dsimp only; omega, by dsimp only; omega, by dsimp only; omega, by dsimp only; omega, by dsimp only; omega, by dsimp only; omega, by dsimp only; omega, by dsimp only; omega, by dsimp only; omega, by dsimp only; omega, by dsimp only; omega, hE, hT, by dsimp only; omega⟩
  have HOK := Lib.hid hok
  have HEE := Lib.hid hEE
  have HOK_B : B ≤ w.heap.size := by omega
  clear hE hT hrow hps hg hnd hN hok hEE
  go_enter Tryd.func18, Tryd.ntmps18
  go_wp2_with fail
  refine (init_any (w.heap.size + 1) _ (by have := alloc2_new w (.cells cs63 63) (.cells (rdCells 0 false false 0 0 0 0 0) 68); exact this)).mono ?_
  rintro e w1 ⟨rfl, hm, hsz, hr⟩
  have hsz1 : w1.heap.size = w.heap.size + 2 := by rw [hsz]; simp
  have HM := Lib.hid hm
  have HR := Lib.hid hr
  clear hm hr hsz z zne
  have hgs := gap_start HEE.out HOK_B hAl HROW.out HN.out hN2 HPS.out HG.out HND.out HM.out HR.out hsz1
  have HGS := Lib.hid hgs
  clear hgs
  go_wp2_with fail
  go_loopg [] ps.length (fun gk w' => Hid (Gap E N ps gk w'))
  case atStart => exact HGS
  case round =>
    obtain ⟨g, o, n, rem, fs, ff, mp, k0, k1, k2, k3, mq, at_, K, l, outs, hl, hK, hrem, hmq, hst, hon⟩ := hrel.out
    have HST := Lib.hid hst
    have HON := Lib.hid hon
    have HMQ := Lib.hid hmq
    have HREM := Lib.hid hrem
    have eA : E.A = A := by rw [← HEE.out]
    have eN : E.N = N := by rw [← HEE.out]
    have eC : E.cap = cap := by rw [← HEE.out]
    have ep : E.p = w.heap.size + 2 := by rw [← HEE.out]
    have ec : E.c = w.heap.size := by rw [← HEE.out]
    have er : E.r = w.heap.size + 1 := by rw [← HEE.out]
    have eob : E.ob = w.heap.size + 3 := by rw [← HEE.out]
    have hblk : wr.heap[w.heap.size + 2]? = some (.cells #[.slice (some ⟨A, 0, none⟩) N cap, .int .i64 at_] 71 (0, 0)) := by
      have := hst.left.blk
      rw [show ({ E with L := l.length } : Env).p = w.heap.size + 2 from ep, show ({ E with L := l.length } : Env).A = A from eA, show ({ E with L := l.length } : Env).N = N from eN, show ({ E with L := l.length } : Env).cap = cap from eC] at this
      exact this
    have hlen : at_ + l.length = N := by have := hst.left.len; rw [show ({ E with L := l.length } : Env).N = N from eN] at this; exact this
    have c0 : wr.cell? ⟨w.heap.size + 2, 0, none⟩ = some (.slice (some ⟨A, 0, none⟩) N cap) := by rw [Lib.cell_of_heap hblk]; rfl
    have c1 : wr.cell? ⟨w.heap.size + 2, 1, none⟩ = some (.int .i64 at_) := by rw [Lib.cell_of_heap hblk]; rfl
    have f1 : wr.frozen? ⟨w.heap.size + 2, 1, none⟩ = false := Lib.frozen_of_heap hblk _
    have EA := Lib.hid (And.intro eA (And.intro eN (And.intro eC (And.intro ep (And.intro ec (And.intro er eob))))))
    have HBLK := Lib.hid hblk
    clear hst hon hmq hrem hrel eA eN eC ep ec er eob hblk
    match l, hl, hlen, HST, HON with
    | [], hl, hlen, HST, HON =>
      have d1 : decide ((at_ : Int) < (N : Int)) = false := decide_eq_false (by simp at hlen; omega)
      have d2 : decide (at_ < N) = false := decide_eq_false (by simp at hlen; omega)
      obtain ⟨v, hv1, hv2⟩ := HST.out.told.row
      obtain ⟨kv, xs, mm, _, hc, _⟩ := HST.out.cl
      have cob : wr.cell? ⟨w.heap.size + 2 + 1, 0, none⟩ = some v := by
        have e : ({ E with L := ([] : List Pc).length } : Env).ob = w.heap.size + 2 + 1 := EA.out.2.2.2.2.2.2
        rw [← e, Lib.cell_of_heap hv1]; rfl
      have ck : wr.cell? ⟨w.heap.size, 4128, none⟩ = some kv := by rw [← EA.out.2.2.2.2.1]; exact hc.cell.1
      have cc : wr.cell? ⟨w.heap.size, 4129, none⟩ = some (.int .i64 0) := by rw [← EA.out.2.2.2.2.1]; exact hc.cell.2
      have HV := Lib.hid hv2
      clear hv1 hv2 hc
      go_wp2_with fail
      go_quiet (fail)
      go_wp2_with fail
      go_quiet (fail)
      go_wp2_with fail
      refine bodyPost_ret (v := .tuple #[v, kv, .int .i64 0, .nilIface]) (by simp [results, Tryd.results18, go_sem]) rfl ⟨w.heap.size + 4, ?_⟩
      rw [HEE.out]
      have hr := HON.out ([], 0, true) (Frm.Run.done _)
      simp only [List.append_nil] at hr
      have hS := fun a b => HST.out.fin.bent (HOK.out.relen _) (show Below wr.heap.size wr ((wr.drewN a).drewN b) from ⟨rfl, rfl, rfl, Nat.le_refl _, fun _ _ => rfl⟩)
      exact ⟨v, kv, _, 0, outs, true, rfl, (hS _ _).below, HV.out, fun x hx => ((hS _ _).outs.lies x hx).1, hr, Or.inl ⟨rfl, rfl, rfl⟩⟩
    | q :: l, hl, hlen, HST, HON =>
      have d1 : decide ((at_ : Int) < (N : Int)) = true := decide_eq_true (by simp at hlen; omega)
      have d2 : decide (at_ < N) = true := decide_eq_true (by simp at hlen; omega)
      have hN3 : at_ < N := by simp at hlen; omega
      have c2 : wr.cell? ⟨A, at_, none⟩ = some (.slice (some ⟨q.g, q.o, none⟩) q.xs.length q.c) := by
        have h0 := (HST.out.left.each 0 (by simp)).cell
        simp only [List.getElem_cons_zero, Nat.add_zero] at h0
        rw [← EA.out.1]; exact h0
      go_wp2_with fail
      go_quiet (fail)
      go_wp2_with fail
      go_quiet (fail)
      go_wp2_with fail
      generalize hW0 : World.drewN wr _ = W0
      have hS0 : St { E with L := (q :: l).length } g o n W0 rem fs ff mp k0 k1 k2 k3 n at_ K [] (q :: l) outs := HST.out.grow (HOK.out.relen _) (by rw [← hW0]; exact ⟨rfl, rfl, rfl, Nat.le_refl _, fun _ _ => rfl⟩)
      have hb0 : W0.heap[w.heap.size + 2]? = some (.cells #[.slice (some ⟨A, 0, none⟩) N cap, .int .i64 at_] 71 (0, 0)) := by rw [← hW0]; exact HBLK.out
      obtain ⟨W, hW⟩ : ∃ W, W0.setCell ⟨w.heap.size + 2, 1, none⟩ (.int .i64 ((at_ + 1 : Nat) : Int)) = W := ⟨_, rfl⟩
      have hS1 : St { E with L := l.length } q.g q.o q.xs.length W rem fs ff mp k0 k1 k2 k3 0 (at_ + 1) K q.xs l outs := by
        have e4 := EA.out.2.2.2.1
        refine (St.next (HOK.out.relen _) hS0 (w' := W) ?_ ?_).relen (Nat.le_refl _)
        · show Mv (fun k => k = E.p) W0 W
          rw [← hW, e4]
          exact mv_set _ _ _ _
        · show W.heap[E.p]? = some (.cells #[.slice (some ⟨E.A, 0, none⟩) E.N E.cap, .int .i64 ((at_ + 1 : Nat) : Int)] 71 (0, 0))
          rw [e4, EA.out.1, EA.out.2.1, EA.out.2.2.1, ← hW, setCell_heap hb0]
          rfl
      have hsmall := HST.out.short.2 q (by simp)
      have hpq := HST.out.pcs q (by simp)
      have hcap := (HST.out.left.each 0 (by simp)).cap
      simp only [List.getElem_cons_zero] at hcap
      obtain ⟨R, hR⟩ : ∃ R : Ending → World → Prop, R = fun e w' => LoopPost { E with L := l.length } q.g q.o q.xs.length (modeOf fs ff rem [k0, k1, k2, k3] mq) q.xs l outs (K + 2 * q.xs.length + 1) e w' := ⟨_, rfl⟩
      have hcall : Calls Tryd.prog 21 #[.pointer (some ⟨E.c, 0, none⟩), .pointer (some ⟨E.r, 0, none⟩), .iface 69 (.pointer (some ⟨E.p, 0, none⟩)), .slice (some ⟨q.g, q.o, none⟩) q.xs.length q.c, .func (.func 22) #[] #[.pointer (some ⟨E.ob, 0, none⟩)]] W R := by
        rw [hR]
        exact loop_any { E with L := l.length } (HOK.out.relen _) q.g q.o q.xs.length q.c rem fs ff mp k0 k1 k2 k3 mq (at_ + 1) K q.xs l outs W hS1 HMQ.out HREM.out hcap (by omega) (by simp at hlen; omega) ⟨hpq.1, hpq.2.1, hpq.2.2.1⟩
      have eob : E.ob = w.heap.size + 2 + 1 := EA.out.2.2.2.2.2.2
      rw [EA.out.2.2.2.2.1, EA.out.2.2.2.2.2.1, EA.out.2.2.2.1, eob, hR] at hcall
      clear hR eob
      have HCALL := Lib.hid hcall
      have hW2 : W0.setCell ⟨w.heap.size + 2, 1, none⟩ (.int .i64 ((at_ : Int) + 1)) = W := hW
      rw [hW2]
      clear hcall hS0 hb0 hS1 hW hW2 c0 c1 c2 f1 hW0 hcap
      refine HCALL.out.mono ?_
      rintro e w' hpost
      rcases hpost with ⟨rfl, rem', fs', ff', mp', l0, l1, l2, l3, mq', at', K', ps', o1, hK', hrem', hmq', hs', hon'⟩ | ⟨a, st, o1, rfl, hf, hrun⟩
      · have hshort := hs'.short.1
        have hl' : at' + ps'.length = N := by have := hs'.left.len; rw [show ({ E with L := l.length } : Env).N = N from EA.out.2.1] at this; exact this
        have H1 : Hid (Gap E N ps ps'.length w') := Lib.hid ⟨q.g, q.o, q.xs.length, rem', fs', ff', mp', l0, l1, l2, l3, mq', at', K', ps', outs ++ o1, rfl, by
            have : K' ≤ K + 2 * q.xs.length + 1 := hK'
            have h3 : at_ + 1 ≤ at' := by simp at hlen; have : ps'.length ≤ l.length := hshort; omega
            have : (at_ + 1) * 10001 ≤ at' * 10001 := Nat.mul_le_mul_right _ h3
            omega, hrem', hmq', hs'.relen (Nat.le_refl _), fun res hr => by
            have h1 := hon' res hr
            have h2 := HON.out _ (Frm.Run.next _ _ _ _ h1)
            simpa using h2⟩
        have hlt : ps'.length < gk := by have : ps'.length ≤ l.length := hshort; simp at hl; omega
        clear hs' hon' hK' hmq'
        go_wp2_with fail
        go_roundg ps'.length
        case measure => exact hlt
        case rel => exact H1
      · obtain ⟨v, hv1, hv2⟩ := hf.outs.row
        obtain ⟨kv, hc⟩ := hf.cl
        have cob : w'.cell? ⟨w.heap.size + 2 + 1, 0, none⟩ = some v := by
          have e : ({ E with L := l.length } : Env).ob = w.heap.size + 2 + 1 := EA.out.2.2.2.2.2.2
          rw [← e, Lib.cell_of_heap hv1]; rfl
        have ck : w'.cell? ⟨w.heap.size, 4128, none⟩ = some kv := by rw [← EA.out.2.2.2.2.1]; exact hc.cell.1
        have cc : w'.cell? ⟨w.heap.size, 4129, none⟩ = some (.int .i64 st) := by rw [← EA.out.2.2.2.2.1]; exact hc.cell.2
        have HV := Lib.hid hv2
        have HF := Lib.hid hf
        have HRUN := Lib.hid hrun
        clear hv1 hv2 hc hf hrun
        go_wp2_with fail
        go_quiet (fail)
        go_wp2_with fail
        refine bodyPost_ret (v := .tuple #[v, kv, .int .i64 st, errV a]) (by simp [results, Tryd.results18, go_sem]) rfl ⟨w.heap.size + 4, ?_⟩
        rw [HEE.out]
        have hr := HON.out _ (Frm.Run.next _ _ _ _ HRUN.out)
        have hS := fun a => HF.out.bent (HOK.out.relen _) (show Below w'.heap.size w' (w'.drewN a) from ⟨rfl, rfl, rfl, Nat.le_refl _, fun _ _ => rfl⟩)
        exact ⟨v, kv, _, st, outs ++ o1, decide (st ≠ 0), rfl, (hS _).below, HV.out, fun x hx => ((hS _).outs.lies x hx).1, by simpa using hr, Or.inr ⟨a, rfl, rfl⟩⟩
end Go.Proofs.YtbldebfjgccadaaDoor

namespace Go.Proofs.YtbldebfjgccadaaDoor
open Go.RowKit
attribute [local go_sem ↓] Go.wp_at_zero Go.wp_at_succ
set_option linter.unusedVariables false
set_option linter.unusedSimpArgs false

/-- A text's bytes. -/
def natsOf (s : ByteArray) : List Nat := s.data.toList.map UInt8.toNat
theorem natsOf_length (s : ByteArray) : (natsOf s).length = s.size := by simp [natsOf]
theorem conv_lie (w : World) (s : ByteArray) : Lie (Lib.bytesWorld w 5 s) w.heap.size 0 (natsOf s) := by
  intro i hi
  have hi2 : i < s.size := by rw [natsOf_length] at hi; exact hi
  refine ⟨?_, ?_, ?_⟩
  · rw [Nat.zero_add, Lib.bytesWorld_cell w 5 s i hi2]
    simp [natsOf, List.getD, hi2]
  · simp [natsOf]
    exact UInt8.toNat_lt _
  · have hb := Lib.bytesWorld_at_new w 5 s
    simp only [World.frozen?, hb]
    have : s.size ≤ (Lib.bytesCells w 5 s).size := by simp [Lib.bytesCells]
    simp
    omega
/-- The pieces so far. -/
structure Bo (w : World) (ss : List ByteArray) (wr : World) (v : Value) (l : List Pc) (k : Nat) : Prop where
  below : Below w.heap.size w wr
  own : wr.ownsRow w.heap.size 52 1 v k (l.map Pc.val)
  len : l.length = k
  lies : ∀ x ∈ l, Lie wr x.g x.o x.xs ∧ x.xs.length ≤ x.c ∧ w.heap.size ≤ x.g ∧ ∃ cs fr, wr.heap[x.g]? = some (.cells cs 5 fr)
  nodup : (l.map (·.g)).Nodup
  read : l.map (·.xs) = (ss.take k).map natsOf

theorem below_mv' {X : Nat → Prop} {w0 w w' : World} (h : Below w0.heap.size w0 w) (m : Mv X w w') (hX : ∀ k, X k → w0.heap.size ≤ k) : Below w0.heap.size w0 w' :=
  h.trans ⟨m.os, m.tape, m.output, m.size, fun k hk => m.block k (by have := h.size; omega) (fun x => by have := hX _ x; omega)⟩
theorem own_no5 {w : World} {B E n k : Nat} {v : Value} {xs : List Value} {cs : Array Value} {fr : Nat × Nat} (h : w.ownsRow B E 1 v n xs) (hk : w.heap[k]? = some (.cells cs 5 fr)) (hE : E ≠ 5) : v.ownBlock ≠ some k := by
  obtain ⟨_, h | ⟨g, cap, cur, rfl, _, hb, _⟩⟩ := h
  · obtain ⟨rfl, _⟩ := h; simp [Value.ownBlock]
  · simp [Value.ownBlock]
    rintro rfl
    rw [hb] at hk
    injection hk with hk
    injection hk with _ hk
    exact hE hk
theorem Bo.step {w wr w4 : World} {ss : List ByteArray} {lv : Value} {l : List Pc} {k gg gcap : Nat} {s : ByteArray} (h : Bo w ss wr lv l k) (hk : k < ss.length) (hs : ss[k] = s) {o : Obj}
    (hown : w4.ownsRow w.heap.size 52 1 (.slice (some ⟨gg, 0, none⟩) (k + 1) gcap) (k + 1) (l.map Pc.val ++ [.slice (some ⟨wr.heap.size, 0, none⟩) s.size (grownCap wr s.size 0 5)]))
    (hgrow : ((Lib.bytesWorld wr 5 s).alloc o).grownBy w4 lv.ownBlock) : Bo w ss w4 (.slice (some ⟨gg, 0, none⟩) (k + 1) gcap) (l ++ [⟨wr.heap.size, 0, grownCap wr s.size 0 5, natsOf s⟩]) (k + 1) := by
  have B1 : Below wr.heap.size wr ((Lib.bytesWorld wr 5 s).alloc o) := (Joins.below_bytesWorld wr.heap.size wr 5 s (Nat.le_refl _)).alloc (by rw [Lib.bytesWorld_size]; omega) _
  have M : Mv (fun k => lv.ownBlock = some k) wr w4 := (Mv.below B1).transNew (Mv.grown (X := fun k => lv.ownBlock = some k) hgrow (fun k _ e => e)) (fun k _ e => e)
  have hsz := h.below.size
  have hnew : w4.heap[wr.heap.size]? = (Lib.bytesWorld wr 5 s).heap[wr.heap.size]? := by
    have e1 : ((Lib.bytesWorld wr 5 s).alloc o).heap[wr.heap.size]? = (Lib.bytesWorld wr 5 s).heap[wr.heap.size]? := Below.heap_alloc _ _ _ (by rw [Lib.bytesWorld_size]; omega)
    rw [← e1]
    refine hgrow.block _ (by simp [Lib.bytesWorld_size]; omega) (fun e => ?_)
    have := (h.own.lt _ e.symm).2
    omega
  refine ⟨below_mv' h.below M (fun k e => (h.own.lt _ e).1), ?_, by simp [h.len], fun x hx => ?_, ?_, ?_⟩
  · rw [List.map_append]
    have e : Pc.val ⟨wr.heap.size, 0, grownCap wr s.size 0 5, natsOf s⟩ = .slice (some ⟨wr.heap.size, 0, none⟩) s.size (grownCap wr s.size 0 5) := by unfold Pc.val; rw [natsOf_length]
    simp only [List.map_cons, List.map_nil, e]
    exact hown
  · rcases List.mem_append.1 hx with hx | hx
    · obtain ⟨h1, h2, h3, cs, fr, h4⟩ := h.lies x hx
      have hn := own_no5 h.own h4 (by decide)
      exact ⟨h1.bent (fun hl => M.block _ hl (fun e => hn e)), h2, h3, cs, fr, M.same (fun e => hn e) h4⟩
    · obtain rfl : x = _ := by simpa using hx
      refine ⟨(conv_lie wr s).bent (fun _ => hnew), ?_, hsz, _, _, hnew.trans (Lib.bytesWorld_at_new wr 5 s)⟩
      rw [natsOf_length]
      exact grownCap_ge _ _ _ _
  · rw [List.map_append, List.nodup_append]
    refine ⟨h.nodup, by simp, fun a ha b hb e => ?_⟩
    obtain ⟨x, hx, rfl⟩ := List.mem_map.1 ha
    obtain rfl : b = wr.heap.size := by simpa using hb
    obtain ⟨_, _, _, cs, fr, h4⟩ := h.lies x hx
    have := Lib.lt_of_heap h4
    omega
  · rw [List.map_append, h.read, List.take_succ_eq_append_getElem hk, List.map_append]
    simp [hs]

set_option maxHeartbeats 8000000 in
set_option maxRecDepth 100000 in
theorem bytesOf_any (ad : Addr) (c : Nat) (ss : List ByteArray) (w : World) (hc : ∀ i (h : i < ss.length), w.cell? (ad.add i) = some (.string ss[i])) (hn : ss.length < 1000) :
    Calls Tryd.prog 19 #[.slice (some ad) ss.length c] w fun e w' => ∃ v l, e = .returned v ∧ Bo w ss w' v l ss.length := by
  obtain ⟨i0, hi0, hz0, hz1, hz2⟩ := info_parts info52
  have HC := Lib.hid hc
  clear hc
  go_enter Tryd.func19, Tryd.ntmps19
  go_wp2_with fail
  go_loopg [3, 4] ss.length (fun gk v3 v4 w' => ∃ (lv : Value) (l : List Pc) (k : Nat), lv = v3 ∧ v4 = .int .i64 k ∧ gk + k = ss.length ∧ Hid (Bo w ss w' lv l k))
  case atStart => exact ⟨_, [], 0, rfl, rfl, by omega, Lib.hid ⟨Below.refl _ _, World.ownsRow_nil _ _ _ _, rfl, by simp, by simp, by simp⟩⟩
  case round =>
    obtain ⟨lv, l, k, rfl, rfl, hgk, hB⟩ := hrel
    by_cases hlt : k < ss.length
    · have d1 : decide ((k : Int) < (ss.length : Int)) = true := decide_eq_true (by omega)
      have d2 : decide (k < ss.length) = true := decide_eq_true hlt
      have h0 := HC.out k hlt
      have c0 : wr.cell? (ad.add k) = some (.string ss[k]) := by rw [hB.out.below.cell (World.block_lt_of_cell? w _ h0)]; exact h0
      obtain ⟨s, hs⟩ : ∃ s, ss[k] = s := ⟨_, rfl⟩
      rw [hs] at c0
      have HSS := Lib.hid hs
      have cv := conv_str
      clear h0 hs
      go_wp2_with (at_builtin; refine wpList_append_lies _ rfl (.tmp 11) (.tmp 17) 45 rfl w.heap.size 52 i0 (.slice none 0 0) 1 24 Tryd.underlying45 hi0 hz0 hz1 hz2 rfl (by omega) lv k (l.map Pc.val) rfl ((own_mv hB.out.own (Mv.below (Joins.below_bytesWorld wr.heap.size wr 5 s (Nat.le_refl _))) (fun _ _ h => h)).alloc _) ⟨(Lib.bytesWorld wr 5 s).heap.size, 0, none⟩ 1 1 [.slice (some ⟨wr.heap.size, 0, none⟩) s.size (grownCap wr s.size 0 5)] rfl rfl (World.news_of_block (cs := #[.slice (some ⟨wr.heap.size, 0, none⟩) s.size (grownCap wr s.size 0 5)]) (t := 52) (fr := (0, 0)) (heap_alloc_new _ _)) (by simp [Value.oneCell']) (by omega) (by unfold maxLen; omega) (by omega) (by have := hB.out.below.size; simp [Lib.bytesWorld_size]; omega) _ rfl ?_)
      intro gg gcap w4 hown4 hgrow hat hlt4
      have H4 := Lib.hid (hB.out.step hlt HSS.out hown4 hgrow)
      clear hown4 hgrow hat
      go_wp2_with fail
      go_roundg (gk - 1)
      case measure => omega
      case rel => exact ⟨_, _, k + 1, rfl, by simp, by omega, H4⟩
    · have d1 : decide ((k : Int) < (ss.length : Int)) = false := decide_eq_false (by omega)
      have d2 : decide (k < ss.length) = false := decide_eq_false (by omega)
      obtain rfl : k = ss.length := by omega
      go_wp2_with fail
      go_ret
      exact ⟨_, l, rfl, hB.out⟩
end Go.Proofs.YtbldebfjgccadaaDoor

namespace Go.Proofs.YtbldebfjgccadaaDoor
open Go.RowKit
attribute [local go_sem ↓] Go.wp_at_zero Go.wp_at_succ
set_option linter.unusedVariables false
set_option linter.unusedSimpArgs false
set_option maxHeartbeats 8000000
set_option maxRecDepth 100000

/-- Bytes as a text. -/
def textOf (xs : List Nat) : ByteArray := strOfNums (xs.map fun x : Nat => (x : Int))
theorem natsOf_text (xs : List Nat) (h : ∀ x ∈ xs, x < 256) : natsOf (textOf xs) = xs := by
  unfold natsOf textOf
  rw [strOfNums_data, List.map_map, List.map_map]
  refine (List.map_congr_left (fun x hx => ?_)).trans (List.map_id _)
  have := h x hx
  simp
  omega
theorem pc_text {w : World} {x : Pc} (h : Lie w x.g x.o x.xs) : (convert 52 9 x.val).run Tryd.prog w = .ok (.string (textOf x.xs)) w :=
  run_convert_bytes_arg w 52 5 under52 under5 x.g x.o x.xs.length x.c (x.xs.map fun x : Nat => (x : Int)) (by simp) (fun i hi => by
    rw [(h i hi).1]
    simp [List.getD, hi]) 9 under9
theorem own_weak {w : World} {B B' E size n : Nat} {v : Value} {xs : List Value} (h : w.ownsRow B E size v n xs) (hb : B' ≤ B) : w.ownsRow B' E size v n xs := by
  refine ⟨h.1, ?_⟩
  rcases h.2 with hn | ⟨g, cap, cur, rfl, hb2, rest⟩
  · exact .inl hn
  · exact .inr ⟨g, cap, cur, rfl, by omega, rest⟩
theorem info9 : (Tryd.prog.info? 9).map (fun i => (i.zero, i.size, i.bytes)) = some (some (.string ⟨#[]⟩), 1, 16) := by kernel_rfl

/-- There are not many pieces of data. -/
theorem run_count {v : List Nat → Bool} {m : Frm.Mode} {c : List Nat} {r : List (List Nat)} {res : Frm.Res} (h : Frm.Run v m c r res) : res.1.length ≤ 2 * (c ++ r.flatten).length + m.mass := by
  induction h with
  | done m => simp
  | next m p r res _ ih => simpa using ih
  | bad ff x c r e => simp
  | closed ff x c r n e => simp
  | ctrl ff x c r c' r' res e _ ih =>
    have hw := Frm.head1_within v ff x c r
    rw [e] at hw
    have := hw.1
    simp only [List.cons_append, List.length_cons, Frm.Mode.mass] at ih ⊢
    omega
  | data ff x c r ff' rem key c' r' res e _ ih =>
    have hw := Frm.head1_within v ff x c r
    rw [e] at hw
    have := hw.1
    simp only [List.cons_append, List.length_cons, Frm.Mode.mass] at ih ⊢
    omega
  | body ff rem key pos x c r out n ok _ ih =>
    simp only [List.cons_append, List.length_cons, List.length_append, Frm.Mode.mass] at ih ⊢
    by_cases hr : rem ≤ c.length + 1
    · rw [if_pos hr] at ih
      simp only [List.length_drop, List.length_cons] at ih
      omega
    · rw [if_neg hr] at ih
      simp only [List.length_drop, List.length_cons] at ih
      omega
theorem flat_le (ss : List ByteArray) (h : ∀ s ∈ ss, s.size ≤ 5000) : (ss.map natsOf).flatten.length ≤ ss.length * 5000 := by
  induction ss with
  | nil => simp
  | cons s l ih =>
    have h1 := h s (by simp)
    have h2 := ih (fun x hx => h x (by simp [hx]))
    simp only [List.map_cons, List.flatten_cons, List.length_append, natsOf_length, List.length_cons]
    omega

/-- What impl.Frames tells. -/
def ImplPost (ss : List ByteArray) (w : World) (e : Ending) (w' : World) : Prop :=
  ∃ (v : Value) (data : List ByteArray) (st : Nat) (ok : Bool), e = .returned (.tuple #[v, .int .i64 st, .bool ok]) ∧ w'.ownsRow w.heap.size 9 1 v data.length (data.map Value.string) ∧ Frm.Run vld (.head true) [] (ss.map natsOf) (data.map natsOf, st, ok) ∧ Below w.heap.size w w'
theorem implFrames_any (ad : Addr) (c : Nat) (ss : List ByteArray) (w : World) (qe : Addr) (hc : ∀ i (h : i < ss.length), w.cell? (ad.add i) = some (.string ss[i])) (h0 : 0 < ss.length) (hn : ss.length < 14) (hs : ∀ s ∈ ss, s.size ≤ 5000) (hE : w.cell? ⟨1, 0, none⟩ = some (errV qe)) (hT : Lib.Utf8Tabs 2 3 w) (h4 : 4 ≤ w.heap.size) :
    Calls Tryd.prog 11 #[.slice (some ad) ss.length c] w fun e w' => ImplPost ss w e w' := by
  obtain ⟨i0, hi0, hz0, hz1, hz2⟩ := info_parts info9
  have HC := Lib.hid hc
  have HS := Lib.hid hs
  have HE := Lib.hid hE
  have HT := Lib.hid hT
  clear hc hs hE hT
  go_enter Tryd.func11, Tryd.ntmps11
  go_wp2_with fail
  refine (bytesOf_any ad c ss w HC.out (by omega)).mono ?_
  rintro e w1 ⟨v, l, rfl, hB⟩
  obtain ⟨hb1, ho1, hl1, hlies, hnd, hread⟩ := hB
  obtain ⟨A, cap, hv, hAB, hrow⟩ : ∃ A cap, v = .slice (some ⟨A, 0, none⟩) ss.length cap ∧ w.heap.size ≤ A ∧ ∃ cs, w1.heap[A]? = some (.cells cs 52 (0, 0)) := by
    obtain ⟨_, h | ⟨g, cap, cur, rfl, h2, h3, _⟩⟩ := ho1
    · omega
    · exact ⟨g, cap, rfl, h2, cur, h3⟩
  subst hv
  have hframes := frames_any A ss.length cap l w1 qe w.heap.size h4 hAB (by rw [hb1.cell (p := ⟨1, 0, none⟩) (by show 1 < w.heap.size; omega)]; exact HE.out) (HT.out.later h4 hb1) (by obtain ⟨cs, h⟩ := hrow; exact ⟨cs, 52, h⟩) hl1 hn (fun i hi => by
      have hx := hlies l[i] (List.getElem_mem hi)
      refine ⟨?_, hx.1, hx.2.1⟩
      have := ho1.cellAt i (by omega)
      rw [this]
      simp [hi]) (fun q hq => by
      obtain ⟨h1, h2, h3, cs, fr, h5⟩ := hlies q hq
      refine ⟨h3, Lib.lt_of_heap h5, fun e => own_no5 ho1 h5 (by decide) (by rw [e]; rfl), ?_⟩
      have : q.xs ∈ l.map (·.xs) := List.mem_map_of_mem hq
      rw [hread, List.take_length] at this
      obtain ⟨s, hs, e⟩ := List.mem_map.1 this
      rw [← e, natsOf_length]; exact HS.out s hs) hnd
  have HF := Lib.hid hframes
  have HB1 := Lib.hid hb1
  have HRD : Hid (l.map (·.xs) = ss.map natsOf) := Lib.hid (by rw [hread, List.take_length])
  clear hframes hb1 ho1 hl1 hlies hnd hread hrow
  go_wp2_with fail
  refine HF.out.mono ?_
  rintro e w2 ⟨BO, v2, kv, ev, st, outs, ok, rfl, hb2, ho2, hl2, hrun, hev⟩
  rw [HRD.out] at hrun
  have hB2 : Below w.heap.size w w2 := HB1.out.trans hb2
  have hcnt : outs.length ≤ 200000 := by
    have h1 := run_count hrun
    have h2 := flat_le ss HS.out
    simp [Frm.Mode.mass] at h1 h2
    omega
  have HO2 := Lib.hid ho2
  have HL2 := Lib.hid hl2
  have HRUN := Lib.hid hrun
  have HB2 := Lib.hid hB2
  obtain ⟨A2, c2, hv2⟩ : ∃ A2 c2, v2 = .slice A2 outs.length c2 := by
    obtain ⟨_, h | ⟨g, cap, cur, rfl, _⟩⟩ := ho2
    · obtain ⟨rfl, h⟩ := h
      exact ⟨none, 0, by rw [h]⟩
    · exact ⟨_, _, rfl⟩
  subst hv2
  have HEV := Lib.hid hev
  clear hb2 ho2 hl2 hrun hB2 HF hev
  go_wp2_with fail
  go_loopg [2, 9] outs.length (fun gk v2' v9 w' => ∃ (dv : Value) (k : Nat), dv = v2' ∧ v9 = .int .i64 k ∧ gk + k = outs.length ∧ Hid (w'.ownsRow w2.heap.size 9 1 dv k ((outs.map fun x => Value.string (textOf x.xs)).take k)) ∧ Hid (Below w2.heap.size w2 w'))
  case atStart => exact ⟨_, 0, rfl, rfl, by omega, World.ownsRow_nil _ _ _ _, Below.refl _ _⟩
  case round =>
    obtain ⟨dv, k, rfl, rfl, hgk, hO, hW⟩ := hrel
    by_cases hlt : k < outs.length
    · have d1 : decide ((k : Int) < (outs.length : Int)) = true := decide_eq_true (by omega)
      have d2 : decide (k < outs.length) = true := decide_eq_true hlt
      have hA2 : ∃ G, A2 = some ⟨G, 0, none⟩ ∧ w2.cell? ⟨G, k, none⟩ = some (.slice (some ⟨outs[k].g, outs[k].o, none⟩) outs[k].xs.length outs[k].c) ∧ G < w2.heap.size := by
        have h1 := HO2.out
        obtain ⟨_, h | ⟨g, cap, cur, h, _⟩⟩ := h1
        · omega
        · have e : A2 = some ⟨g, 0, none⟩ := by injection h
          refine ⟨g, e, ?_, ?_⟩
          · subst e
            have := HO2.out.cellAt k (by simpa using hlt)
            have h3 : ((outs.map Pc.val)[k]? : Option Value) = some outs[k].val := by simp [hlt]
            simpa [h3] using this
          · subst e
            exact (HO2.out.lt g rfl).2
      obtain ⟨G, rfl, hG, hGl⟩ := hA2
      obtain ⟨x, hx⟩ : ∃ x, outs[k] = x := ⟨_, rfl⟩
      rw [hx] at hG
      have hLx : Lie w2 x.g x.o x.xs := by rw [← hx]; exact HL2.out _ (List.getElem_mem hlt)
      have c0 : wr.cell? ⟨G, k, none⟩ = some (.slice (some ⟨x.g, x.o, none⟩) x.xs.length x.c) := by rw [hW.out.cell (p := ⟨G, k, none⟩) hGl]; exact hG
      have cv : (convert 52 9 (.slice (some ⟨x.g, x.o, none⟩) x.xs.length x.c)).run Tryd.prog wr = .ok (.string (textOf x.xs)) wr := pc_text (hLx.bent (fun hl => hW.out.block _ hl))
      have HXX := Lib.hid hx
      have hwl : w2.heap.size ≤ wr.heap.size := hW.out.size
      clear hG hx hLx
      go_wp2_with (at_builtin; refine wpList_append_lies _ rfl (.tmp 24) (.tmp 30) 30 rfl w2.heap.size 9 i0 (.string ⟨#[]⟩) 1 16 Tryd.underlying30 hi0 hz0 hz1 hz2 rfl (by omega) dv k ((outs.map fun x => Value.string (textOf x.xs)).take k) rfl (hO.out.alloc _) ⟨wr.heap.size, 0, none⟩ 1 1 [.string (textOf x.xs)] rfl rfl (World.news_of_block (cs := #[.string (textOf x.xs)]) (t := 9) (fr := (0, 0)) (heap_alloc_new wr _)) (by simp [Value.oneCell']) (by omega) (by unfold maxLen; omega) (by omega) (by simp; omega) _ rfl ?_)
      intro gg gcap w4 hown4 hgrow hat hlt4
      have H4 : Hid (w4.ownsRow w2.heap.size 9 1 (.slice (some ⟨gg, 0, none⟩) (k + 1) gcap) (k + 1) ((outs.map fun x => Value.string (textOf x.xs)).take (k + 1))) := Lib.hid (by
        rw [List.take_succ_eq_append_getElem (by simpa using hlt)]
        simp only [List.getElem_map, HXX.out]
        exact hown4)
      have W4 : Hid (Below w2.heap.size w2 w4) := Lib.hid (below_mv' hW.out (((Mv.refl _ wr).alloc _).transNew (Mv.grown (X := fun k => dv.ownBlock = some k) hgrow (fun k _ e => e)) (fun k _ e => e)) (fun k e => (hO.out.lt _ e).1))
      clear hown4 hgrow hat
      go_wp2_with fail
      go_roundg (gk - 1)
      case measure => omega
      case rel => exact ⟨_, k + 1, rfl, by simp, by omega, H4, W4⟩
    · have d1 : decide ((k : Int) < (outs.length : Int)) = false := decide_eq_false (by omega)
      have d2 : decide (k < outs.length) = false := decide_eq_false (by omega)
      obtain rfl : k = outs.length := by omega
      have HOF : Hid (wr.ownsRow w.heap.size 9 1 dv outs.length ((outs.map fun x => textOf x.xs).map Value.string)) := Lib.hid (by
        have h := own_weak hO.out HB2.out.size
        rw [List.take_of_length_le (by simp)] at h
        rw [List.map_map]; exact h)
      have HRF : Hid (Frm.Run vld (.head true) [] (ss.map natsOf) ((outs.map fun x => textOf x.xs).map natsOf, st, ok)) := Lib.hid (by
        have e : (outs.map fun x => textOf x.xs).map natsOf = outs.map (·.xs) := by
          rw [List.map_map]
          refine List.map_congr_left (fun x hx => ?_)
          refine natsOf_text x.xs (fun y hy => ?_)
          obtain ⟨i, hi, rfl⟩ := List.mem_iff_getElem.1 hy
          exact (HL2.out x hx i hi).2.1
        rw [e]; exact HRUN.out)
      have HWF : Hid (Below w.heap.size w wr) := Lib.hid (HB2.out.trans (hW.out.mono HB2.out.size))
      rcases HEV.out with ⟨rfl, rfl, rfl⟩ | ⟨a, rfl, hok⟩
      · go_wp2_with fail
        go_ret3
        exact ⟨dv, outs.map fun x => textOf x.xs, 0, true, rfl, by rw [List.length_map]; exact HOF.out, HRF.out, HWF.out⟩
      · by_cases hst : st = 0
        · have e1 : ((st : Int) != 0) = false := by simp [hst]
          have e2 : ((st : Int) == 0) = true := by simp [hst]
          have HST := Lib.hid hst
          have HOK := Lib.hid hok
          clear hst hok
          go_wp2_with fail
          go_ret3
          exact ⟨dv, outs.map fun x => textOf x.xs, st, false, rfl, by rw [List.length_map]; exact HOF.out, by have h := HRF.out; rw [HOK.out, HST.out] at h; rw [HST.out]; simpa using h, HWF.out⟩
        · have e1 : ((st : Int) != 0) = true := by simp; omega
          have e2 : ((st : Int) == 0) = false := by simp; omega
          have HST := Lib.hid hst
          have HOK := Lib.hid hok
          clear hst hok
          go_wp2_with fail
          go_ret3
          exact ⟨dv, outs.map fun x => textOf x.xs, st, true, rfl, by rw [List.length_map]; exact HOF.out, by have h := HRF.out; rw [HOK.out, decide_eq_true HST.out] at h; exact h, HWF.out⟩
end Go.Proofs.YtbldebfjgccadaaDoor

namespace Go.Proofs.YtbldebfjgccadaaDoor
open Go.RowKit Go.Proofs.YtbldebfjgccadaaDoorW.PrintWords
open PFnFramesCuts (laws_pieces.f laws_pieces.l0 laws_joined.f laws_joined.l0)
set_option linter.unusedVariables false
set_option linter.unusedSimpArgs false

theorem wrap_succ' (i : Nat) (h : i < 4611686018427387904) : wrap64 ((i : Int) + 1) = ((i + 1 : Nat) : Int) := by unfold wrap64; omega

theorem natsOf_append (s t : ByteArray) : natsOf (s ++ t) = natsOf s ++ natsOf t := by
  unfold natsOf
  rw [ByteArray.data_append, Array.toList_append, List.map_append]
theorem natsOf_take (s : ByteArray) (m : Nat) : natsOf (s.extract 0 m) = (natsOf s).take m := by
  unfold natsOf
  rw [ByteArray.data_extract, Array.toList_extract, ← List.map_take]
  simp [List.extract]
theorem natsOf_drop (s : ByteArray) (m : Nat) : natsOf (s.extract m s.size) = (natsOf s).drop m := by
  unfold natsOf
  rw [ByteArray.data_extract, Array.toList_extract, ← List.map_drop]
  have h : s.data.toList.length = s.size := by rw [Array.length_toList]; rfl
  rw [List.extract_eq_take_drop, List.take_of_length_le (by rw [List.length_drop, h]; omega)]
theorem natsOf_inj {s t : ByteArray} (h : natsOf s = natsOf t) : s = t := by
  unfold natsOf at h
  have h1 : s.data.toList = t.data.toList := (List.map_inj_right (fun a b e => UInt8.toNat_inj.1 e)).1 h
  have h2 : s.data = t.data := Array.ext' h1
  cases s; cases t; simp_all

theorem pieces_step (k : Nat) (s : ByteArray) (cuts : List Int) (out : List ByteArray) (i m : Nat) (h1 : (i : Int) < (cuts.length : Int)) (h2 : (i : Int) < 12) (h3 : (0 : Int) ≤ (i : Int))
    (e1 : IntKind.u64.wrap (wrap64 ((s.size : Int) + 1)) = (s.size : Int) + 1) (h4 : ¬ ((s.size : Int) + 1 = 0)) (hm : wrap64 (Int.tmod (IntKind.u64.wrap (rd cuts (i : Int))) ((s.size : Int) + 1)) = (m : Int)) (h5 : (0 : Int) ≤ (m : Int)) (h6 : (m : Int) ≤ (s.size : Int)) (h7 : out.length < 8796093022208) (h8 : wrap64 ((i : Int) + 1) = ((i + 1 : Nat) : Int)) :
    laws_pieces.l0 (k + 1) s cuts out (i : Int) = laws_pieces.l0 k (s.extract m s.size) cuts (out ++ [s.extract 0 m]) ((i + 1 : Nat) : Int) := by
  rw [laws_pieces.l0, if_pos h1, if_pos h2, if_pos h3, e1, hm, h8, if_neg h4, if_pos h5, if_pos h6, if_pos h7, Int.toNat_natCast]
theorem pieces_last (k : Nat) (s : ByteArray) (cuts : List Int) (out : List ByteArray) (i : Nat) (h : ¬ ((i : Int) < (cuts.length : Int)) ∨ ¬ ((i : Int) < 12)) (h7 : out.length < 8796093022208) : laws_pieces.l0 (k + 1) s cuts out (i : Int) = some (out ++ [s]) := by
  rw [laws_pieces.l0]
  by_cases h1 : (i : Int) < (cuts.length : Int)
  · rcases h with h | h
    · exact absurd h1 h
    · rw [if_pos h1, if_neg h, if_pos h7]
  · rw [if_neg h1, if_pos h7]
theorem size_wrap (n : Nat) (h : n ≤ 5000) : IntKind.u64.wrap (wrap64 ((n : Int) + 1)) = (n : Int) + 1 := by rw [wrap_succ' _ (by omega), IntKind.wrap_u64]; omega
theorem cut_at (x : Int) (n : Nat) (h : n ≤ 5000) (hx : 0 ≤ x) : ∃ m : Nat, wrap64 (Int.tmod x ((n : Int) + 1)) = (m : Int) ∧ m ≤ n := by
  have h4 := Int.tmod_nonneg (a := x) ((n : Int) + 1) hx
  have h5 := Int.tmod_lt_of_pos x (b := (n : Int) + 1) (by omega)
  generalize Int.tmod x ((n : Int) + 1) = y at h4 h5
  exact ⟨y.toNat, by unfold wrap64; omega, by omega⟩
theorem u64_nonneg (x : Int) : 0 ≤ IntKind.u64.wrap x := by rw [IntKind.wrap_u64]; omega
/-- A text cut at places: the pieces are the text. -/
theorem pieces_ends (cuts : List Int) (d : Nat) : ∀ (s : ByteArray) (out : List ByteArray) (i : Nat), min cuts.length 12 - i = d → i ≤ min cuts.length 12 → s.size ≤ 5000 → out.length ≤ i →
    ∃ r, Ev (fun k => laws_pieces.l0 k s cuts out (i : Int)) r ∧ (r.map natsOf).flatten = (out.map natsOf).flatten ++ natsOf s ∧ r.length = out.length + 1 + d := by
  induction d with
  | zero =>
    intro s out i h1 h2 hs ho
    have h3 : ¬ ((i : Int) < (cuts.length : Int)) ∨ ¬ ((i : Int) < 12) := by omega
    have h7 : out.length < 8796093022208 := by omega
    exact ⟨out ++ [s], Ev.step (f := fun _ => some (out ++ [s])) (fun k => pieces_last k s cuts out i h3 h7) (Ev.now _), by simp, by simp⟩
  | succ d ih =>
    intro s out i h1 h2 hs ho
    obtain ⟨m, hm, hms⟩ := cut_at (IntKind.u64.wrap (rd cuts (i : Int))) s.size hs (u64_nonneg _)
    have a1 : (i : Int) < (cuts.length : Int) := by omega
    have a2 : (i : Int) < 12 := by omega
    have a3 : out.length < 8796093022208 := by omega
    have a4 : wrap64 ((i : Int) + 1) = ((i + 1 : Nat) : Int) := wrap_succ' i (by omega)
    have a5 : (s.extract m s.size).size ≤ 5000 := by rw [ByteArray.size_extract]; omega
    obtain ⟨r, hr, hf, hl⟩ := ih (s.extract m s.size) (out ++ [s.extract 0 m]) (i + 1) (by omega) (by omega) a5 (by simp; omega)
    refine ⟨r, Ev.step (f := fun k => laws_pieces.l0 k (s.extract m s.size) cuts (out ++ [s.extract 0 m]) ((i + 1 : Nat) : Int)) (fun k => pieces_step k s cuts out i m a1 a2 (by omega) (size_wrap _ hs) (by omega) hm (by omega) (by omega) a3 a4) hr, ?_, by rw [hl, List.length_append, List.length_singleton]; omega⟩
    rw [hf, natsOf_drop, List.map_append, List.flatten_append, List.append_assoc]
    simp [natsOf_take]
theorem pieces_done (s : ByteArray) (cuts : List Int) (hs : s.size ≤ 5000) (hc : cuts.length ≤ 12) :
    ∃ k r, laws_pieces.f k s cuts = some r ∧ (r.map natsOf).flatten = natsOf s ∧ 0 < r.length ∧ r.length < 14 := by
  obtain ⟨r, hr, hf, hl⟩ := pieces_ends cuts _ s [] 0 rfl (by omega) hs (by simp)
  obtain ⟨k, hk⟩ := hr.rounds
  exact ⟨k, r, hk, by simpa using hf, by omega, by simp at hl; omega⟩

/-- Texts as one. -/
theorem joined_step (k : Nat) (l : List ByteArray) (acc x : ByteArray) (i : Nat) (h1 : (i : Int) < (l.length : Int)) (h2 : (0 : Int) ≤ (i : Int)) (e1 : rdOf ByteArray.empty l (i : Int) = x) (h3 : acc.size + x.size ≤ 9223372036854775807) (h4 : wrap64 ((i : Int) + 1) = ((i + 1 : Nat) : Int)) :
    laws_joined.l0 (k + 1) l acc (i : Int) = laws_joined.l0 k l (acc ++ x) ((i + 1 : Nat) : Int) := by
  rw [laws_joined.l0, if_pos h1, if_pos h2, e1, if_pos h3, h4]
theorem joined_last (k : Nat) (l : List ByteArray) (acc : ByteArray) (i : Nat) (h1 : ¬ (i : Int) < (l.length : Int)) : laws_joined.l0 (k + 1) l acc (i : Int) = some acc := by
  rw [laws_joined.l0, if_neg h1]
theorem joined_ends (l : List ByteArray) (d : Nat) : ∀ (acc : ByteArray) (i : Nat), l.length - i = d → i ≤ l.length → acc.size + ((l.drop i).map natsOf).flatten.length ≤ 1000000 → l.length ≤ 1000000 →
    ∃ r, Ev (fun k => laws_joined.l0 k l acc (i : Int)) r ∧ natsOf r = natsOf acc ++ ((l.drop i).map natsOf).flatten := by
  induction d with
  | zero =>
    intro acc i h1 h2 hs hL
    have h3 : ¬ (i : Int) < (l.length : Int) := by omega
    refine ⟨acc, Ev.step (f := fun _ => some acc) (fun k => joined_last k l acc i h3) (Ev.now _), ?_⟩
    rw [List.drop_of_length_le (by omega)]; simp
  | succ d ih =>
    intro acc i h1 h2 hs hL
    have hi : i < l.length := by omega
    have e1 : rdOf ByteArray.empty l (i : Int) = l[i] := by simp [rdOf, List.getD, hi]
    have e2 : l.drop i = l[i] :: l.drop (i + 1) := List.drop_eq_getElem_cons hi
    rw [e2] at hs ⊢
    simp only [List.map_cons, List.flatten_cons, List.length_append, natsOf_length] at hs ⊢
    have a1 : (i : Int) < (l.length : Int) := by omega
    have a3 : acc.size + l[i].size ≤ 9223372036854775807 := by omega
    have a4 : wrap64 ((i : Int) + 1) = ((i + 1 : Nat) : Int) := wrap_succ' i (by omega)
    obtain ⟨r, hr, hf⟩ := ih (acc ++ l[i]) (i + 1) (by omega) (by omega) (by rw [ByteArray.size_append]; omega) hL
    refine ⟨r, Ev.step (f := fun k => laws_joined.l0 k l (acc ++ l[i]) ((i + 1 : Nat) : Int)) (fun k => joined_step k l acc l[i] i a1 (by omega) e1 a3 a4) hr, ?_⟩
    rw [hf, natsOf_append, List.append_assoc]
theorem joined_done (l : List ByteArray) (hs : (l.map natsOf).flatten.length ≤ 1000000) (hl : l.length ≤ 1000000) : ∃ k r, laws_joined.f k l = some r ∧ natsOf r = (l.map natsOf).flatten := by
  obtain ⟨r, hr, hf⟩ := joined_ends l _ ByteArray.empty 0 rfl (by omega) (by simpa using hs) hl
  obtain ⟨k, hk⟩ := hr.rounds
  exact ⟨k, r, hk, by rw [hf]; simp [natsOf]⟩

/-- The pieces' row, read. -/
theorem strs_cells {w : World} {B : Nat} {v : Value} {r : List ByteArray} (h : Kd.R Kd.string 9 w B (fun _ => True) v r) (hn : 0 < r.length) :
    ∃ ad c, v = .slice (some ad) r.length c ∧ ∀ i, (hi : i < r.length) → w.cell? (ad.add i) = some (.string r[i]) := by
  obtain ⟨A, c, rfl, hc, hC⟩ := Kd.R_reads h
  obtain ⟨ad, rfl, hcell⟩ := hC.2.2 hn
  refine ⟨ad, c, rfl, fun i hi => ?_⟩
  obtain ⟨cs, h1, h2, h3⟩ := hcell i r[i] (List.getElem?_eq_getElem hi)
  have h2' : cs = [Value.string r[i]] := h2
  subst h2'
  have := h3 0 (.string r[i]) rfl
  simpa [Kd.string, Kd.scalar] using this
/-- An own row of texts, read. -/
theorem own_strs {w : World} {B : Nat} {v : Value} {l : List ByteArray} (h : w.ownsRow B 9 1 v l.length (l.map Value.string)) : ∃ A c, v = .slice A l.length c ∧ l.length ≤ c ∧ Kd.C Kd.string w A l.length l := by
  obtain ⟨A, c, rfl, hc, hr⟩ := own_reads_of_le (enc := Value.string) (d := ByteArray.empty) (xs := l) h
  exact ⟨A, c, rfl, hc, Kd.C_of_reads hr⟩
/-- What a whole run reads does not hang on the cuts. -/
theorem runs_agree {v : List Nat → Bool} {a b : List (List Nat)} {x y : Frm.Res} (ha : Frm.Run v (.head true) [] a x) (hb : Frm.Run v (.head true) [] b y) (h : a.flatten = b.flatten) : x.1.flatten = y.1.flatten ∧ x.2 = y.2 := by
  have h1 := ha.flat
  have h2 := hb.flat
  rw [List.nil_append] at h1 h2
  rw [h] at h1
  have h3 := Frm.Flat.det h1 h2
  simp only [Prod.mk.injEq] at h3
  exact ⟨h3.1, Prod.ext h3.2.1 h3.2.2⟩
end Go.Proofs.YtbldebfjgccadaaDoor

namespace Go.Proofs.YtbldebfjgccadaaDoor
open Go.RowKit Go.Proofs.YtbldebfjgccadaaDoorW.PrintWords
open PFnFramesCuts (laws_pieces.f laws_pieces.calls laws_joined.f laws_joined.calls)
attribute [local go_sem ↓] Go.wp_at_zero Go.wp_at_succ
set_option linter.unusedVariables false
set_option linter.unusedSimpArgs false
set_option maxHeartbeats 8000000
set_option maxRecDepth 100000

/-- What the walks need of the listed variables. -/
structure Sur (qe : Addr) (w : World) : Prop where
  eof : w.cell? ⟨1, 0, none⟩ = some (errV qe)
  tabs : Lib.Utf8Tabs 2 3 w
  size : 4 ≤ w.heap.size
theorem Sur.later {qe : Addr} {w w' : World} (h : Sur qe w) (hb : Below w.heap.size w w') : Sur qe w' :=
  ⟨by rw [hb.cell (p := ⟨1, 0, none⟩) (by have := h.size; show 1 < w.heap.size; omega)]; exact h.eof, h.tabs.later h.size hb, by have := h.size; have := hb.size; omega⟩

/-- The bytes of a frame whose data are one x. -/
def oneX : ByteArray := ⟨#[130, 129, 0, 0, 0, 0, 120]⟩
theorem oneX_right : Frm.Right vld true [⟨2, true, [0, 0, 0, 0], [120]⟩] [120] 0 :=
  Frm.Right.data true true ⟨2, true, [0, 0, 0, 0], [120]⟩ [] [] 0 (by decide) rfl (by decide) rfl (Frm.Right.none true)
theorem oneX_reads {res : Frm.Res} (h : Frm.Run vld (.head true) [] ([oneX].map natsOf) res) : res.1.flatten = [120] ∧ res.2 = (0, true) := by
  have h1 := h.flat
  have h2 := Frm.flat_wrs vld oneX_right
  rw [List.nil_append] at h1
  have e : ([oneX].map natsOf).flatten = Frm.wrs [⟨2, true, [0, 0, 0, 0], [120]⟩] := by decide
  rw [e] at h1
  have h3 := Frm.Flat.det h1 h2
  simp only [Prod.mk.injEq] at h3
  exact ⟨h3.1, Prod.ext h3.2.1 h3.2.2⟩

/-- The data are not more than what came. -/
theorem run_sum {v : List Nat → Bool} {m : Frm.Mode} {c : List Nat} {r : List (List Nat)} {res : Frm.Res} (h : Frm.Run v m c r res) : res.1.flatten.length ≤ (c ++ r.flatten).length := by
  induction h with
  | done m => simp
  | next m p r res _ ih => simpa using ih
  | bad ff x c r e => simp
  | closed ff x c r n e => simp
  | ctrl ff x c r c' r' res e _ ih =>
    have hw := Frm.head1_within v ff x c r
    rw [e] at hw
    have := hw.1
    simp only [List.cons_append, List.length_cons] at ih ⊢
    omega
  | data ff x c r ff' rem key c' r' res e _ ih =>
    have hw := Frm.head1_within v ff x c r
    rw [e] at hw
    have := hw.1
    simp only [List.cons_append, List.length_cons] at ih ⊢
    omega
  | body ff rem key pos x c r out n ok _ ih =>
    have hu := Frm.unmask_length key pos ((x :: c).take rem)
    have ht : ((x :: c).take rem).length + ((x :: c).drop rem).length = (x :: c).length := by rw [List.length_take, List.length_drop]; omega
    simp only [List.flatten_cons, List.length_append] at ih ⊢
    omega
/-- Two runs' texts as one. -/
theorem joined_run {da : List ByteArray} {ss : List ByteArray} {st : Nat} {ok : Bool} (h : Frm.Run vld (.head true) [] (ss.map natsOf) (da.map natsOf, st, ok)) (hs : (ss.map natsOf).flatten.length ≤ 100000) : ∃ k r, laws_joined.f k da = some r ∧ natsOf r = (da.map natsOf).flatten := by
  have h1 := run_count h
  have h2 := run_sum h
  simp only [Frm.Mode.mass, List.nil_append, List.length_map] at h1 h2
  exact joined_done da (by omega) (by omega)

/-- A text alone in a row, read by impl.Frames. -/
theorem one_any (s : ByteArray) (w : World) (qe : Addr) (hs : s.size ≤ 5000) (hS : Sur qe w) (o : Obj) (ho : o = .cells #[.string s] 9 (0, 0)) :
    Calls Tryd.prog 11 #[.slice (some ⟨w.heap.size, 0, none⟩) 1 1] (w.alloc o) fun e w' => ImplPost [s] (w.alloc o) e w' := by
  have hS' := hS.later ((Below.refl w.heap.size w).alloc (Nat.le_refl _) o)
  refine implFrames_any ⟨w.heap.size, 0, none⟩ 1 [s] (w.alloc o) qe (fun i hi => ?_) (by simp) (by simp) (fun t ht => by rw [List.mem_singleton.1 ht]; exact hs) hS'.eof hS'.tabs hS'.size
  have hi0 : i = 0 := by simpa using hi
  subst hi0
  subst ho
  have h := cell_of_row (w.alloc (.cells #[.string s] 9 (0, 0))) w.heap.size 0 #[.string s] 9 (0, 0) (heap_alloc_new w _)
  exact h

theorem awake_any (w : World) (qe : Addr) (hS : Sur qe w) : Calls Tryd.prog 9 #[] w fun e w' => e = .returned (.bool true) ∧ Below w.heap.size w w' := by
  have HS := Lib.hid hS
  clear hS
  go_enter Tryd.func9, Tryd.ntmps9
  go_wp2_with fail
  refine (one_any oneX w qe (by decide) HS.out _ rfl).mono ?_
  rintro e w1 ⟨v, data, st, ok, rfl, ho, hrun, hb⟩
  obtain ⟨hx, hy⟩ := oneX_reads hrun
  simp only [Prod.mk.injEq] at hy
  obtain ⟨rfl, rfl⟩ := hy
  obtain ⟨A, c, rfl, hAc, hC⟩ := own_strs ho
  have hx' : (data.map natsOf).flatten = [120] := hx
  have hlen : data.length ≤ 1000000 := by
    have h1 := run_count hrun
    have e1 : (([] : List Nat) ++ ([oneX].map natsOf).flatten).length = 7 := by decide
    have e2 : (data.map natsOf, 0, true).1.length = data.length := by simp
    simp only [Frm.Mode.mass] at h1
    rw [e1, List.length_map] at h1
    omega
  obtain ⟨k, r, hk, hr⟩ := joined_done data (by rw [hx']; decide) hlen
  have hr1 : r = ⟨#[120]⟩ := natsOf_inj (by rw [hr, hx']; decide)
  subst hr1
  have HJ := Lib.hid (laws_joined.calls k A c data ⟨#[120]⟩ w1 hC hAc hk)
  have HB := Lib.hid (((Below.refl w.heap.size w).alloc (Nat.le_refl _) _).trans (hb.mono (by simp)) : Below w.heap.size w w1)
  clear hx hx' hlen hk hr hC hAc ho hrun hb
  go_wp2_with fail
  refine HJ.out.mono ?_
  rintro e w2 ⟨rfl, hd⟩
  have HB2 := Lib.hid (HB.out.trans (hd.below.mono HB.out.size))
  clear HJ hd
  go_wp2_with fail
  go_ret
  exact ⟨rfl, HB2.out⟩

theorem cuts_any (s : ByteArray) (A : Option Addr) (c : Nat) (cuts : List Int) (w : World) (qe : Addr) (hr : Kd.C (Kd.int .i64) w A cuts.length cuts) (hc : cuts.length ≤ c) (hS : Sur qe w) :
    Calls Tryd.prog 4 #[.string s, .slice A cuts.length c] w fun e w' => e = .returned (.bool true) ∧ Below w.heap.size w w' := by
  have HS := Lib.hid hS
  have HC := Lib.hid hr
  have HL := Lib.hid hc
  clear hS hr hc
  by_cases c1 : 2147483647 < (s.size : Int)
  · have d1 : decide ((s.size : Int) > 2147483647) = true := decide_eq_true c1
    clear c1
    go_enter Tryd.func4, Tryd.ntmps4
    go_wp2_with fail
    go_ret
    exact ⟨rfl, Below.refl _ _⟩
  have d1 : decide ((s.size : Int) > 2147483647) = false := decide_eq_false c1
  by_cases c2 : 2147483647 < (cuts.length : Int)
  · have d2 : decide ((cuts.length : Int) > 2147483647) = true := decide_eq_true c2
    clear c1 c2
    go_enter Tryd.func4, Tryd.ntmps4
    go_wp2_with fail
    go_ret
    exact ⟨rfl, Below.refl _ _⟩
  have d2 : decide ((cuts.length : Int) > 2147483647) = false := decide_eq_false c2
  by_cases c3 : 600 < (s.size : Int)
  · have d3 : decide ((s.size : Int) > 600) = true := decide_eq_true c3
    clear c1 c2 c3
    go_enter Tryd.func4, Tryd.ntmps4
    go_wp2_with fail
    refine (awake_any w qe HS.out).mono ?_
    rintro e w1 ⟨rfl, hb⟩
    have HB := Lib.hid hb
    clear hb
    go_wp2_with fail
    go_ret
    exact ⟨rfl, HB.out⟩
  have d3 : decide ((s.size : Int) > 600) = false := decide_eq_false c3
  by_cases c4 : 12 < (cuts.length : Int)
  · have d4 : decide ((cuts.length : Int) > 12) = true := decide_eq_true c4
    clear c1 c2 c3 c4
    go_enter Tryd.func4, Tryd.ntmps4
    go_wp2_with fail
    refine (awake_any w qe HS.out).mono ?_
    rintro e w1 ⟨rfl, hb⟩
    have HB := Lib.hid hb
    clear hb
    go_wp2_with fail
    go_ret
    exact ⟨rfl, HB.out⟩
  have d4 : decide ((cuts.length : Int) > 12) = false := decide_eq_false c4
  have hs6 : Hid (s.size ≤ 600) := Lib.hid (by omega)
  have hc12 : Hid (cuts.length ≤ 12) := Lib.hid (by omega)
  clear c1 c2 c3 c4
  go_enter Tryd.func4, Tryd.ntmps4
  go_wp2_with fail
  refine (one_any s w qe (by have := hs6.out; omega) HS.out _ rfl).mono ?_
  rintro e w1 ⟨v1, da, st, ok, rfl, ho1, hrun1, hb1⟩
  have hB1 : Below w.heap.size w w1 := ((Below.refl w.heap.size w).alloc (Nat.le_refl _) _).trans (hb1.mono (by simp))
  obtain ⟨A1, k1, rfl, hAc1, hC1⟩ := own_strs ho1
  obtain ⟨kp, r, hkp, hrf, hr0, hr14⟩ := pieces_done s cuts (by have := hs6.out; omega) hc12.out
  have HP := Lib.hid (laws_pieces.calls kp s A c cuts r w1 (Kd.C_below HC.out hB1) HL.out hkp)
  have HB1 := Lib.hid hB1
  have HO1 := Lib.hid hC1
  have HA1 := Lib.hid hAc1
  have HRUN1 := Lib.hid hrun1
  have HRF := Lib.hid hrf
  have HR0 := Lib.hid hr0
  have HR14 := Lib.hid hr14
  clear hkp hrf hr0 hr14 ho1 hrun1 hb1 hB1 hC1 hAc1
  go_wp2_with fail
  refine HP.out.mono ?_
  rintro e w2 ⟨v2, rfl, hR, hb2⟩
  obtain ⟨ad, k2, rfl, hcells⟩ := strs_cells hR HR0.out
  have hB2 : Below w.heap.size w w2 := HB1.out.trans (hb2.mono HB1.out.size)
  have hS2 := HS.out.later hB2
  have HF2 := Lib.hid (implFrames_any ad k2 r w2 qe hcells HR0.out HR14.out (fun t ht => by
    have h1 : (natsOf t).length ≤ (r.map natsOf).flatten.length := (List.sublist_flatten_of_mem (List.mem_map_of_mem ht)).length_le
    rw [HRF.out, natsOf_length, natsOf_length] at h1
    have := hs6.out
    omega) hS2.eof hS2.tabs hS2.size)
  have HB2 := Lib.hid hB2
  have hb2' := Lib.hid hb2
  clear hR hb2 hcells hB2 hS2 HP
  go_wp2_with fail
  refine HF2.out.mono ?_
  rintro e w3 ⟨v3, db, st3, ok3, rfl, ho3, hrun3, hb3⟩
  have hB3 : Below w.heap.size w w3 := HB2.out.trans (hb3.mono HB2.out.size)
  obtain ⟨hfl, hend⟩ := runs_agree HRUN1.out hrun3 (by rw [HRF.out]; simp)
  simp only [Prod.mk.injEq] at hend
  obtain ⟨rfl, rfl⟩ := hend
  obtain ⟨ja, ra, hja, hra⟩ := joined_run HRUN1.out (by simp [natsOf_length]; have := hs6.out; omega)
  obtain ⟨jb, rb, hjb, hrb⟩ := joined_run hrun3 (by rw [HRF.out, natsOf_length]; have := hs6.out; omega)
  have hfl' : (da.map natsOf).flatten = (db.map natsOf).flatten := hfl
  obtain rfl : ra = rb := natsOf_inj (by rw [hra, hrb, hfl'])
  obtain ⟨A3, k3, rfl, hAc3, hC3⟩ := own_strs ho3
  have HJA := Lib.hid (laws_joined.calls ja A1 k1 da ra w3 (Kd.C_below HO1.out ((hb2'.out.trans (hb3.mono hb2'.out.size)))) HA1.out hja)
  have HJB := Lib.hid (fun w4 (hd : Drawn0 w3 w4) => laws_joined.calls jb A3 k3 db ra w4 (Kd.C_below hC3 hd.below) hAc3 hjb)
  have HB3 := Lib.hid hB3
  have HS3 := Lib.hid (HS.out.later hB3)
  clear hra hrb hfl' hfl hja hjb hAc3 hC3 ho3 hrun3 hb3 hB3 HRUN1 HF2 HB2 hb2' HO1 HA1 HRF HR0 HR14
  cases ok with
  | false =>
    go_wp2_with fail
    refine (awake_any w3 qe HS3.out).mono ?_
    rintro e w4 ⟨rfl, hb⟩
    have HB4 := Lib.hid (HB3.out.trans (hb.mono HB3.out.size))
    clear hb
    go_wp2_with fail
    go_ret
    exact ⟨rfl, HB4.out⟩
  | true =>
    have e1 : ((st : Int) == (st : Int)) = true := by simp
    go_wp2_with fail
    refine HJA.out.mono ?_
    rintro e w4 ⟨rfl, hd4⟩
    have HJB4 := Lib.hid (HJB.out w4 hd4)
    have HD4 := Lib.hid hd4
    clear hd4 HJA HJB
    go_wp2_with fail
    refine HJB4.out.mono ?_
    rintro e w5 ⟨rfl, hd5⟩
    have hB45 : Below w3.heap.size w3 w5 := HD4.out.below.trans (hd5.below.mono HD4.out.below.size)
    have HB5 := Lib.hid (HB3.out.trans (hB45.mono HB3.out.size))
    have HS5 := Lib.hid (HS3.out.later hB45)
    clear hd5 HD4 HJB4 hB45
    go_wp2_with fail
    refine (awake_any w5 qe HS5.out).mono ?_
    rintro e w6 ⟨rfl, hb⟩
    have HB6 := Lib.hid (HB5.out.trans (hb.mono HB5.out.size))
    clear hb
    go_wp2_with fail
    go_ret
    exact ⟨rfl, HB6.out⟩
end Go.Proofs.YtbldebfjgccadaaDoor

namespace Go.Proofs.YtbldebfjgccadaaDoor
open Go.ChangeShapes Go.WideShapes Go.ChangeAt Go.RowKit
open Go.Proofs.YtbldebfjgccadaaDoorW.PrintWords
set_option linter.unusedVariables false

section
variable {H : Type} {enc : TypeId × Value → H} {w : World} {spare : Nat → Bool} {held : Bool}
/-- A slice of integers, opened. -/
theorem open_cuts {v : Value} {d : DataW H} {p : List MemPlace} (hv : ∃ a len cap, v = .slice a len cap) (h : DataW.Trod enc Tryd.prog w 0 spare held 23 v d p) :
    ∃ (l : List Int) (a : Option Addr) (cap : Nat), v = .slice a l.length cap ∧ l.length ≤ cap ∧ Kd.C (Kd.int .i64) w a l.length l := by
  obtain ⟨a, len, cap, rfl⟩ := hv
  obtain ⟨fuel, hf⟩ := h
  rcases open_ints Tryd.underlying23 Tryd.underlying3 (by kernel_rfl) hf with ⟨hcs, _⟩ | ⟨b, len', cap', zs, hcs, _, hl, hm, hz, _, hcell, _⟩
  · have := List.singleton_inj.1 hcs
    obtain ⟨rfl, rfl, rfl⟩ : a = none ∧ len = 0 ∧ cap = 0 := by simpa using this
    exact ⟨[], none, 0, rfl, Nat.le_refl _, rfl, Nat.zero_le _, fun h => absurd h (Nat.lt_irrefl _)⟩
  · obtain ⟨rfl, rfl, rfl⟩ : a = some b ∧ len = len' ∧ cap = cap' := by simpa [Value.cells] using List.singleton_inj.1 hcs
    have hzl : len ≤ zs.length := by rw [hz]; split <;> omega
    have hlen : (zs.take len).length = len := by rw [List.length_take]; omega
    refine ⟨zs.take len, some b, cap, by rw [hlen], by omega, rfl, by rw [hlen]; unfold maxLen at hm; omega, fun _ => ⟨b, rfl, fun j q hq => ⟨[.int .i64 q], rfl, rfl, fun i u hu => ?_⟩⟩⟩
    rcases i with _ | i
    · simp at hu; subst hu
      obtain ⟨hj, e⟩ := List.getElem?_eq_some_iff.1 hq
      have hjl : j < zs.length := by rw [hlen] at hj; omega
      have hc := hcell j hjl
      show w.cell? (b.add (j * 1 + 0)) = _
      have e2 : zs.getD j 0 = q := by
        rw [List.getElem_take] at e
        rw [List.getD_eq_getElem?_getD, List.getElem?_eq_getElem hjl]
        exact e
      rw [e2] at hc
      simpa using hc
    · simp at hu
end

theorem star : "*" ++ "errors.errorString" = "*errors.errorString" := by decide
theorem row97 (u : TypeId) (h : Tryd.prog.typeName? 3 u = some "*errors.errorString") : u = 97 :=
  typeName_ptr_named (nm := "errors.errorString") (by rw [star]; kernel_rfl) (by kernel_rfl) (by decide) u (by rw [star]; exact h)
theorem first_data : (Rows.laid_unicode_utf8_first : DataW Unit) = Lib.firstData := by
  kernel_rfl
theorem accept_data : (Rows.laid_unicode_utf8_acceptRanges : DataW Unit) = Lib.acceptData := by
  kernel_rfl
/-- What the list gives. -/
theorem sur_laid {W : World} (h : laidMet Tryd.prog [("unicode/utf8.acceptRanges", Rows.laid_unicode_utf8_acceptRanges), ("io.EOF", Rows.laid_io_EOF), ("unicode/utf8.first", Rows.laid_unicode_utf8_first)] W) : ∃ qe, Sur qe W := by
  obtain ⟨a, s, hv, _⟩ := laid_sentinel (g := 1) (ti := 48) (tp := 97) (te := 99) (ts := 9) (laidMet.tail h) (by kernel_rfl) (by kernel_rfl) Tryd.underlying48 row97 Tryd.underlying97 Tryd.underlying99 rfl rfl Tryd.underlying9 (by kernel_rfl) (by kernel_rfl)
  have hE : W.cell? ⟨1, 0, none⟩ = some (errV a) := by
    have := World.var?_cell (show Tryd.prog.globalNamed "io.EOF" = some 1 by kernel_rfl) hv 0
    simpa [errV] using this
  have hT : Lib.Utf8Tabs 2 3 W :=
    utf8Tabs_of_readsT (U8Types.of196 Tryd.lays196) ⟨by kernel_rfl, by kernel_rfl, by kernel_rfl, by kernel_rfl, by kernel_rfl, by kernel_rfl, by kernel_rfl⟩ (first_data ▸ Lib.laidMet.reads h (by simp)) (accept_data ▸ Lib.laidMet.reads h (by simp))
  exact ⟨a, hE, hT, World.block_lt_of_cell? W _ (hT.2 0 (by decide)).1⟩
end Go.Proofs.YtbldebfjgccadaaDoor
