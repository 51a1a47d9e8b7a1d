/- The walk of wsHandleControlFrame. -/
import Derived.Test.YtbldebfjgccadaaDoorFrH
namespace Go.Proofs.YtbldebfjgccadaaDoor
open Go.RowKit
attribute [local go_sem ↓] Go.wp_at_zero Go.wp_at_succ
set_option linter.unusedVariables false
set_option linter.unusedSimpArgs false

/-- Whether bytes are UTF-8. -/
def vld (l : List Nat) : Bool := Lib.validD (l.map fun x => UInt8.ofNat x)

/-- An end with an error. -/
def BadEnd (E : Env) (st : Nat) (outs : List Pc) (e : Ending) (w' : World) : Prop := (∃ (pv : Nat) (a : Addr), e = .returned (.tuple #[.int .u64 pv, errV a])) ∧ Fin E w' st outs
/-- What wsHandleControlFrame tells. -/
def CtrlPost (E : Env) (g o n rem : Nat) (ff : Bool) (k0 k1 k2 k3 K op : Nat) (cur : List Nat) (ps outs : List Pc) (e : Ending) (w' : World) : Prop :=
  (Frm.get rem cur (ps.map (·.xs)) = none ∧ BadEnd E 0 outs e w') ∨
  ∃ b cur' ps', Frm.get rem cur (ps.map (·.xs)) = some (b, cur', ps'.map (·.xs)) ∧
    ((op = 8 ∧ Frm.closing vld (Frm.unmask [k0, k1, k2, k3] 0 b) = none ∧ BadEnd E 0 outs e w') ∨
     (op = 8 ∧ ∃ st, Frm.closing vld (Frm.unmask [k0, k1, k2, k3] 0 b) = some st ∧ BadEnd E st outs e w') ∨
     (op ≠ 8 ∧ ∃ pos' mp' at', e = .returned (.tuple #[.int .u64 (pos' : Nat), .nilIface]) ∧ St E g o n w' 0 true ff mp' k0 k1 k2 k3 pos' at' (K + 1) cur' ps' outs))

/-- A payload as it lies. -/
def PayV (w : World) (d : List Nat) (v : Value) : Prop := (v = .slice none 0 0 ∧ d = []) ∨ (∃ g o c, v = .slice (some ⟨g, o, none⟩) d.length c ∧ 0 < d.length ∧ d.length ≤ c ∧ Lie w g o d)
def CutA (E : Env) (g o n rem : Nat) (ff : Bool) (k0 k1 k2 k3 K : Nat) (cur : List Nat) (ps outs : List Pc) (v14 v5 : Value) (wx : World) : Prop :=
  ∃ b cur' ps' pos' mp' at', Frm.get rem cur (ps.map (·.xs)) = some (b, cur', ps'.map (·.xs)) ∧ b.length ≤ 125 ∧ v5 = .int .u64 (pos' : Nat) ∧ PayV wx (Frm.unmask [k0, k1, k2, k3] 0 b) v14 ∧ St E g o n wx 0 true ff mp' k0 k1 k2 k3 pos' at' K cur' ps' outs

theorem St.more {E : Env} {g o n : Nat} {w : World} {rem : Nat} {fs ff : Bool} {mp k0 k1 k2 k3 pos at_ K : Nat} {cur : List Nat} {ps outs : List Pc} (h : St E g o n w rem fs ff mp k0 k1 k2 k3 pos at_ K cur ps outs) : St E g o n w rem fs ff mp k0 k1 k2 k3 pos at_ (K + 1) cur ps outs := by
  obtain ⟨kv, xs, m, h1, h2, h3⟩ := h.cl
  exact ⟨h.below, h.size, h.rd, h.key, h.mp4, ⟨kv, xs, m, by omega, h2, h3⟩, h.left, h.here, h.len, h.told, Nat.le_succ_of_le h.cnt, h.pcs, h.nodup, h.apart, h.apartC, h.short⟩
theorem PayV.str {w : World} {d : List Nat} {v : Value} (h : PayV w d v) : ∃ str, (convert 52 9 v).run Tryd.prog w = .ok (.string str) w := by
  rcases h with ⟨rfl, _⟩ | ⟨g, o, c, rfl, _, _, hl⟩
  · exact ⟨_, run_convert_bytes_nil w 52 5 under52 under5 0 0 9 under9⟩
  · exact ⟨_, run_convert_bytes_arg w 52 5 under52 under5 g o d.length c (d.map fun x : Nat => (x : Int)) (by simp) (fun i hi => by
      rw [(hl i hi).1]
      simp [List.getD, hi]) 9 under9⟩
theorem Fin.setClosed {E : Env} {w : World} {st : Nat} {outs : List Pc} (h : Fin E w st outs) (ok : E.Ok) (m : Nat) : Fin E (w.setCell ⟨E.c, 4129, none⟩ (.int .i64 m)) m outs := by
  obtain ⟨b4, bA, aLim, lc, lr, lp, lob, cB, rB, pB, obB, cr, cp, cob, rp, rob, pob, _, _, wB⟩ := ok
  obtain ⟨kv, h1⟩ := h.cl
  have M : Mv (fun k => k = E.c) w (w.setCell ⟨E.c, 4129, none⟩ (.int .i64 m)) := Mv.setCell (X := fun k => k = E.c) (Mv.refl _ _) (b := E.c) (fun _ => rfl) _ _
  exact ⟨below_mv h.below M wB (fun k hk => by omega), ⟨kv, h1.setClosed m⟩, h.outs.mv' M obB (fun k hk => by omega)⟩
theorem Fin.bent {E : Env} {w w' : World} {st : Nat} {outs : List Pc} (h : Fin E w st outs) (ok : E.Ok) (b : Below w.heap.size w w') : Fin E w' st outs := by
  obtain ⟨kv, h1⟩ := h.cl
  have M : Mv (fun _ => False) w w' := Mv.below b
  exact ⟨below_mv h.below M ok.wB (fun k hk => hk.elim), ⟨kv, h1.keep (M.block _ h1.lt (fun h => h))⟩, h.outs.mv M (fun h => h) (fun _ _ _ h => h) (fun _ _ _ _ h => h)⟩
theorem below_drew_l {B : Nat} {w w' : World} (h : Below B w.drew w') : Below B w w' := ⟨h.os, h.tape, h.output, h.size, h.block⟩
theorem be_two {d : List Nat} {b0 b1 : UInt8} (h : 2 ≤ d.length) (h0 : b0.toNat = d[0]) (h1 : b1.toNat = d[1]) : Lib.beNat [b0, b1] = Frm.be (d.take 2) := by
  match d, h, h0, h1 with
  | x :: y :: r, _, h0, h1 =>
    simp only [List.getElem_cons_zero, List.getElem_cons_succ] at h0 h1
    simp [Lib.beNat, Lib.beFrom, Frm.be, h0, h1]
theorem _root_.Go.Lib.Utf8Tabs.later {w w' : World} {B : Nat} (h : Lib.Utf8Tabs 2 3 w) (h4 : 4 ≤ B) (b : Below B w w') : Lib.Utf8Tabs 2 3 w' :=
  ⟨fun c hc => (b.cell (p := ⟨2, c, none⟩) (by show 2 < B; omega)).trans (h.1 c hc), fun i hi => ⟨(b.cell (p := ⟨3, 2 * i, none⟩) (by show 3 < B; omega)).trans (h.2 i hi).1, (b.cell (p := ⟨3, 2 * i + 1, none⟩) (by show 3 < B; omega)).trans (h.2 i hi).2⟩⟩
theorem Fin.conn {E : Env} {w w' : World} {st : Nat} {outs : List Pc} (h : Fin E w st outs) (ok : E.Ok) (m : Mv (fun k => k = E.p ∨ k = E.A) w w') : Fin E w' st outs := by
  obtain ⟨b4, bA, aLim, lc, lr, lp, lob, cB, rB, pB, obB, cr, cp, cob, rp, rob, pob, _, _, wB⟩ := ok
  obtain ⟨kv, h1⟩ := h.cl
  exact ⟨below_mv h.below m wB (fun k hk => by omega), ⟨kv, h1.keep (m.block _ h1.lt (by omega))⟩, h.outs.mv' m obB (fun k hk => by omega)⟩
/-- Behind wsGet and unmask. -/
theorem St.getMasked {E : Env} {g o n : Nat} {w w1 w2 : World} {rem : Nat} {fs ff : Bool} {mp k0 k1 k2 k3 pos at_ K a' g' o' d pos' rem' mp' : Nat} {fs' ff' : Bool} {cur : List Nat} {ps outs ps' : List Pc} (h : St E g o n w rem fs ff mp k0 k1 k2 k3 pos at_ K cur ps outs) (ok : E.Ok) (hg : E.B ≤ g ∧ g < E.lim ∧ g ≠ E.A)
    (m : Mv (fun k => k = E.p ∨ k = E.A) w w1) (hps : Ps w1 E.p E.A E.N E.cap a' ps') (adv : Adv ps ps') (hd : 0 < d) (hw : Wr g' o' d E.r w1 w2) (hr : w2.heap[E.r]? = some (.cells (rdCells rem' fs' ff' mp' k0 k1 k2 k3) 68 (0, 0))) (hm : mp' < 4)
    (hpl : (g' = g ∧ o' = o + pos ∧ d ≤ cur.length) ∨ w.heap.size ≤ g') (hp : pos' + (cur.drop d).length = n) : St E g o n w2 rem' fs' ff' mp' k0 k1 k2 k3 pos' a' K (cur.drop d) ps' outs := by
  have hl := h.len
  rcases hpl with ⟨rfl, rfl, hdl⟩ | hnew
  · have hs := h.conn ok (Or.inl hg.2) m hps adv
    obtain rfl : pos' = pos + d := by rw [List.length_drop] at hp; omega
    exact hs.maskHere ok hg hdl hw hr hm
  · have ok' := ok
    obtain ⟨b4, bA, aLim, lc, lr, lp, lob, cB, rB, pB, obB, cr, cp, cob, rp, rob, pob, _, _, wB⟩ := ok'
    have hsz := h.size
    have hsz1 := m.size
    have M : Mv (fun k => k = E.p ∨ k = E.A ∨ k = E.r) w w2 := ⟨hw.os.trans m.os, hw.tape.trans m.tape, hw.output.trans m.output, Nat.le_trans m.size hw.size, fun k hk hx => (hw.block k (by omega) (by omega) (by omega)).trans (m.block k hk (by omega))⟩
    have hps2 : Ps w2 E.p E.A E.N E.cap a' ps' := hps.bent (fun k hk hx => hw.block k hk (by rcases hx with hx | hx | ⟨x, hx, e⟩; omega; omega; obtain ⟨y, hy, e2, _, _⟩ := adv.each x hx; have := h.pcs y hy; omega) (by rcases hx with hx | hx | ⟨x, hx, e⟩; omega; omega; obtain ⟨y, hy, e2, _, _⟩ := adv.each x hx; have := h.pcs y hy; omega))
    exact (h.connR ok (Or.inl hg.2) M hr h.key hm hps2 adv).skip d pos' hp
theorem rd_rem0 {w : World} {r rem : Nat} {fs ff : Bool} {mp k0 k1 k2 k3 : Nat} (h : w.heap[r]? = some (.cells (rdCells rem fs ff mp k0 k1 k2 k3) 68 (0, 0))) (x : Nat) : (w.setCell ⟨r, 0, none⟩ (.int .u64 x)).heap[r]? = some (.cells (rdCells x fs ff mp k0 k1 k2 k3) 68 (0, 0)) := by
  rw [setCell_heap h]; rfl

set_option maxHeartbeats 4000000 in
set_option maxRecDepth 100000 in
theorem ctrl_any (E : Env) (ok : E.Ok) (g o n cc rem : Nat) (ff : Bool) (k0 k1 k2 k3 pos at_ K op : Nat) (cur : List Nat) (ps outs : List Pc) (w : World) (h : St E g o n w rem true ff 0 k0 k1 k2 k3 pos at_ K cur ps outs) (hop : op = 8 ∨ op = 9 ∨ op = 10) (hrem : rem ≤ 125) (hcc : n ≤ cc) (hn : n < 1000000) (hK : K < 1000000) (hg : E.B ≤ g ∧ g < E.lim ∧ g ≠ E.A) :
    Calls Tryd.prog 28 #[.pointer (some ⟨E.c, 0, none⟩), .pointer (some ⟨E.r, 0, none⟩), .int .i64 op, .iface 69 (.pointer (some ⟨E.p, 0, none⟩)), .slice (some ⟨g, o, none⟩) n cc, .int .u64 pos] w fun e w' => CtrlPost E g o n rem ff k0 k1 k2 k3 K op cur ps outs e w' := by
  have H := Lib.hid h
  have OK := Lib.hid ok
  have HG := Lib.hid hg
  clear h ok hg
  have hlen := H.out.len
  have c0 : w.cell? ⟨E.r, 0, none⟩ = some (.int .u64 rem) := by rw [Lib.cell_of_heap H.out.rd]; rfl
  go_enter Tryd.func28, Tryd.ntmps28
  go_upto_if 26 with (fail)
  go_cut [14, 5] (fun v14 v5 wx => CutA E g o n rem ff k0 k1 k2 k3 K cur ps outs v14 v5 wx)
  case first =>
    rcases Nat.eq_zero_or_pos rem with rfl | h0
    · go_wp2_with fail
      go_meet
      exact ⟨[], cur, ps, pos, 0, at_, by simp [Frm.get], by simp, rfl, Or.inl ⟨rfl, rfl⟩, H.out⟩
    · have H0 := Lib.hid h0
      have d1 : decide ((0 : Int) < (rem : Int)) = true := decide_eq_true (by omega)
      clear h0
      go_wp2_with fail
      refine (wsGet_any E.p E.A E.N E.cap at_ ps g o n cc pos rem cur E.qe w H0.out H.out.len hcc hn (by omega) H.out.here H.out.left (by have := OK.out; have := this.aLim; have := OK.out.lp; omega) (fun x hx => ?_) ?_ ?_ ?_).mono ?_
      · have := H.out.pcs x hx
        have := OK.out.lp
        have := H.out.size
        have := OK.out.pB
        exact ⟨by omega, by omega, by omega⟩
      · have := H.out.below.cell (p := ⟨1, 0, none⟩) (by have := OK.out.b4; show 1 < E.B; omega)
        rw [this]; exact OK.out.eof
      · have := OK.out.lp; have := OK.out.aLim; have := OK.out.bA; have := OK.out.b4; omega
      · have := OK.out.bA; have := OK.out.b4; omega
      rintro e w1 ⟨hm, hr⟩
      rcases hr with ⟨hget, rfl⟩ | ⟨b, g', o', c', a', pos', ps', hget, rfl, hp', hbl, hcl, hlie, hps, hadv, hpl⟩
      · have HGET := Lib.hid hget
        have S1 : Hid (Fin E w1 0 outs) := Lib.hid (H.out.fin.conn OK.out hm)
        clear hget hm
        go_wp2_with fail
        go_ret2
        exact Or.inl ⟨HGET.out, ⟨0, E.qe, rfl⟩, S1.out⟩
      · have HM := Lib.hid hm
        have hl2 : Hid (b.length = rem) := Lib.hid hbl
        have HL := Lib.hid hlie
        have HPS := Lib.hid hps
        have HAD := Lib.hid hadv
        have HPL := Lib.hid hpl
        have HPP := Lib.hid hp'
        have HGET := Lib.hid hget
        have rd1 : w1.heap[E.r]? = some (.cells (rdCells rem true ff 0 k0 k1 k2 k3) 68 (0, 0)) := hm.same (by have := OK.out.rp; have := OK.out.lr; have := OK.out.aLim; omega) H.out.rd
        have RD1 := Lib.hid rd1
        have c4 : w1.cell? ⟨E.r, 4, none⟩ = some (.bool true) := by rw [Lib.cell_of_heap rd1]; rfl
        subst hbl
        clear hm hlie hps hadv hpl hp' hget rd1
        go_wp2_with fail
        refine (unmask_any g' o' c' E.r b.length 0 true ff k0 k1 k2 k3 H.out.key b w1 RD1.out ?_ HL.out (by omega) (by omega) hcl).mono ?_
        · rcases HPL.out with ⟨rfl, _⟩ | h5
          · have := HG.out; have := OK.out.lr; omega
          · have := OK.out.rB; have := H.out.size; omega
        rintro e w2 ⟨rfl, hwr, hlu, hrd⟩
        have HW := Lib.hid hwr
        have HLU := Lib.hid hlu
        have HR := Lib.hid hrd
        have c0 : w2.cell? ⟨E.r, 0, none⟩ = some (.int .u64 b.length) := by rw [Lib.cell_of_heap hrd]; rfl
        have f0 : w2.frozen? ⟨E.r, 0, none⟩ = false := Lib.frozen_of_heap hrd _
        clear hwr hlu hrd
        go_wp2_with fail
        go_meet
        have hgr : g' ≠ E.r := by
          rcases HPL.out with ⟨rfl, _⟩ | h5
          · have := HG.out; have := OK.out.lr; omega
          · have := OK.out.rB; have := H.out.size; omega
        refine ⟨b, cur.drop b.length, ps', pos', (0 + b.length) % 4, a', HGET.out, by omega, rfl, Or.inr ⟨g', o', c', by rw [Frm.unmask_length], by rw [Frm.unmask_length]; exact H0.out, by rw [Frm.unmask_length]; exact hcl, HLU.out.bent (fun _ => setCell_other (Ne.symm hgr))⟩, ?_⟩
        have hs := H.out.getMasked OK.out HG.out HM.out HPS.out HAD.out (by omega) HW.out HR.out (by omega) HPL.out HPP.out
        exact hs.reader OK.out HG.out.2.1 (Mv.setCell (X := fun k => k = E.r) (Mv.refl _ _) (b := E.r) (fun _ => rfl) _ _) (rd_rem0 hs.rd 0) hs.key hs.mp4
  case rest =>
    obtain ⟨b, cur', ps', pos', mp', at', hget, hbl, rfl, hpv, hs⟩ := hcut
    have HGET := Lib.hid hget
    have HPV := Lib.hid hpv
    have HS := Lib.hid hs
    clear hget hpv hs H c0
    have hce : E.c ≠ 1 := by have := OK.out.lc; have := OK.out.aLim; have := OK.out.bA; have := OK.out.b4; omega
    obtain ⟨kv, xs, m, hm, hc, ho⟩ := HS.out.cl
    have HC := Lib.hid hc
    have HO := Lib.hid ho
    have c5 := hc.cell.2
    have f5 := hc.free 4129
    have hE : wc.cell? ⟨1, 0, none⟩ = some (errV E.qe) := by
      have := HS.out.below.cell (p := ⟨1, 0, none⟩) (by have := OK.out.b4; show 1 < E.B; omega)
      rw [this]; exact OK.out.eof
    clear hc ho
    rcases hop with rfl | rfl | rfl
    · obtain ⟨d, hd⟩ : ∃ d, Frm.unmask [k0, k1, k2, k3] 0 b = d := ⟨_, rfl⟩
      have hdl : d.length ≤ 125 := by rw [← hd, Frm.unmask_length]; exact hbl
      have hpv := HPV.out
      rw [hd] at hpv
      have HD := Lib.hid hd
      clear hd HPV
      rcases hpv with ⟨rfl, hd0⟩ | ⟨g2, o2, c2, rfl, hd1, hd2, hlie⟩
      · have HD0 := Lib.hid hd0
        clear hd0
        go_wp2_with fail
        go_quiet (fail)
        go_wp2_with fail
        go_ret2
        refine Or.inr ⟨b, cur', ps', HGET.out, Or.inr (Or.inl ⟨rfl, 1005, ?_, ⟨pos', E.qe, rfl⟩, ?_⟩)⟩
        · rw [HD.out, HD0.out]; rfl
        · exact ((HS.out.fin.setClosed OK.out 1005).bent OK.out (by exact ⟨rfl, rfl, rfl, Nat.le_refl _, fun _ _ => rfl⟩))
      · have HL := Lib.hid hlie
        clear hlie
        by_cases h1 : d.length = 1
        · have e1 : ((d.length : Int) == 1) = true := by simp [h1]
          have e2 : (d.length == 1) = true := by simp [h1]
          have H1 := Lib.hid h1
          clear h1
          go_wp2_with fail
          refine (protoErr_any _ _ _).mono ?_
          rintro e w1 ⟨⟨a, rfl⟩, hb⟩
          have HB := Lib.hid hb
          clear hb
          go_wp2_with fail
          go_ret2
          refine Or.inr ⟨b, cur', ps', HGET.out, Or.inl ⟨rfl, ?_, ⟨pos', a, rfl⟩, (HS.out.grow OK.out HB.out).fin⟩⟩
          rw [HD.out]
          unfold Frm.closing
          rw [if_neg (by omega), if_pos H1.out]
        · have e1 : ((d.length : Int) == 1) = false := by simp; omega
          have e2 : (d.length == 1) = false := by simp; omega
          have e3 : decide ((2 : Int) ≤ (d.length : Int)) = true := decide_eq_true (by omega)
          have e4 : decide (2 ≤ d.length) = true := decide_eq_true (by omega)
          have hd3 : 2 ≤ d.length := by omega
          have hs2 : ∀ W, (Instr.slice 52 (.slice (some ⟨g2, o2, none⟩) d.length c2) none (some (.int .i64 2)) none).run Tryd.prog W = .ok (.slice (some ⟨g2, o2, none⟩) 2 c2) W := fun W => slice_upto g2 o2 d.length c2 2 (by omega) W
          clear h1
          obtain ⟨q, hq⟩ : ∃ q, decide ((2 : Int) < (d.length : Int)) = q := ⟨_, rfl⟩
          go_upto_if 67 with (fail)
          go_cut [16, 17] (fun v16 v17 wx => ∃ (st : Nat) (s : ByteArray), v16 = .int .i64 st ∧ v17 = .string s ∧ s.size ≤ 123 ∧ st < 65536 ∧ Hid (Frm.closing vld d = some st) ∧ Hid (st ≠ 1005) ∧ Hid (St E g o n wx 0 true ff mp' k0 k1 k2 k3 pos' at' K cur' ps' outs))
          case first =>
            go_wp2_with fail
            go_still_tail 3, (by kernel_rfl)
            go_wp2_with fail
            have l0 := HL.out 0 (by omega)
            have l1 := HL.out 1 (by omega)
            obtain ⟨b0, hb0⟩ : ∃ b0 : UInt8, b0 = UInt8.ofNat d[0] := ⟨_, rfl⟩
            obtain ⟨b1, hb1⟩ : ∃ b1 : UInt8, b1 = UInt8.ofNat d[1] := ⟨_, rfl⟩
            have hn0 : b0.toNat = d[0] := by rw [hb0]; simp; have := l0.2.1; omega
            have hn1 : b1.toNat = d[1] := by rw [hb1]; simp; have := l1.2.1; omega
            have L0 := Lib.hid l0.1
            have L1 := Lib.hid l1.1
            have N0 := Lib.hid hn0
            have N1 := Lib.hid hn1
            clear l0 l1 hb0 hb1 hn0 hn1
            refine (Tryd.binary_BE_Uint16 g2 o2 2 c2 b0 b1 wc.drew (by omega) (by rw [N0.out]; exact L0.out) (by rw [N1.out]; exact L1.out)).mono ?_
            rintro e w1 ⟨rfl, hb⟩
            have S1 : Hid (St E g o n w1 0 true ff mp' k0 k1 k2 k3 pos' at' K cur' ps' outs) := Lib.hid (HS.out.grow OK.out (below_drew_l hb))
            have B1 : Hid (Below wc.heap.size wc w1) := Lib.hid (below_drew_l hb)
            obtain ⟨st, hst⟩ : ∃ st, Frm.be (d.take 2) = st := ⟨_, rfl⟩
            have est : Lib.beNat [b0, b1] = st := by
              rw [← hst]
              exact be_two hd3 N0.out N1.out
            rw [est]
            have hstl : st < 65536 := by
              rw [← est]
              have := UInt8.toNat_lt b0
              have := UInt8.toNat_lt b1
              simp [Lib.beNat, Lib.beFrom]
              omega
            have HST := Lib.hid hst
            clear hb est hst c5 f5 hE hs2
            have hwi : IntKind.i64.wrap (st : Int) = (st : Int) := by rw [IntKind.wrap_i64]; omega
            go_wp2_with fail
            refine (status_any st hstl w1).mono ?_
            rintro e w2 ⟨rfl, rfl⟩
            by_cases hok : Frm.statusOk st = true
            · rw [hok]
              have HOK := Lib.hid hok
              clear hok
              have h1005 : Hid (st ≠ 1005) := Lib.hid (fun e => by have := HOK.out; rw [e] at this; revert this; decide)
              cases q with
              | true =>
                have hb2 : 2 < d.length := by have := of_decide_eq_true hq; omega
                obtain ⟨o3, ho3, hsl⟩ := slice_from g2 o2 d.length c2 2 (by omega) (by omega)
                have hsl2 : ∀ W, (Instr.slice 52 (.slice (some ⟨g2, o2, none⟩) d.length c2) (some (.int .i64 2)) none none).run Tryd.prog W = .ok (.slice (some ⟨g2, o3, none⟩) (d.length - 2) (c2 - 2)) W := hsl
                have ho4 : o3 = o2 + 2 := ho3 hb2
                have hcv : (convert 52 9 (.slice (some ⟨g2, o3, none⟩) (d.length - 2) (c2 - 2))).run Tryd.prog w1 = .ok (.string (strOfNums ((d.drop 2).map fun x : Nat => (x : Int)))) w1 :=
                  run_convert_bytes_arg w1 52 5 under52 under5 g2 o3 (d.length - 2) (c2 - 2) ((d.drop 2).map fun x : Nat => (x : Int)) (by simp) (fun i hi => by
                    have h5 := (HL.out.bent (fun hl => B1.out.block g2 hl)) (2 + i) (by omega)
                    rw [ho4, Nat.add_assoc, h5.1]
                    simp [List.getD, show 2 + i < d.length by omega]) 9 under9
                obtain ⟨s, hs⟩ : ∃ s, strOfNums ((d.drop 2).map fun x : Nat => (x : Int)) = s := ⟨_, rfl⟩
                have hsz : s.size ≤ 123 := by rw [← hs, strOfNums_size]; simp; omega
                have HSS := Lib.hid hs
                rw [hs] at hcv
                have HB2 := Lib.hid hb2
                clear hs hsl ho3 ho4 hb2
                go_wp2_with fail
                have hT : Lib.Utf8Tabs 2 3 w1 := OK.out.tabs.later OK.out.b4 S1.out.below
                have HT := Lib.hid hT
                clear hT
                refine (Tryd.utf8_ValidString s w1 (by omega) HT.out).mono ?_
                rintro e w2 ⟨rfl, hb⟩
                have S2 : Hid (St E g o n w2 0 true ff mp' k0 k1 k2 k3 pos' at' K cur' ps' outs) := Lib.hid (S1.out.grow OK.out hb)
                have hcl : Frm.closing vld d = if Lib.validD s.data.toList = false then some 1007 else some st := by
                  have ev : vld (d.drop 2) = Lib.validD s.data.toList := by
                    rw [← HSS.out, strOfNums_data, List.map_map]
                    rfl
                  unfold Frm.closing
                  rw [if_neg (by omega), if_neg (by omega)]
                  simp only [HST.out, HOK.out, if_true, ev]
                  cases Lib.validD s.data.toList with
                  | true => simp
                  | false => rw [if_pos ⟨HB2.out, rfl⟩, if_pos rfl]
                have HCL := Lib.hid hcl
                clear hb hcl hcv hsl2
                by_cases hv : Lib.validD s.data.toList = true
                · rw [hv]
                  have HV := Lib.hid hv
                  clear hv
                  go_wp2_with fail
                  go_meet
                  exact ⟨st, s, rfl, rfl, hsz, hstl, Lib.hid (by rw [HCL.out, HV.out]; rfl), h1005, S2⟩
                · have hv2 : Lib.validD s.data.toList = false := by simpa using hv
                  rw [hv2]
                  have HV := Lib.hid hv2
                  clear hv hv2
                  go_wp2_with fail
                  go_meet
                  exact ⟨1007, _, rfl, rfl, by decide, by omega, Lib.hid (by rw [HCL.out, HV.out]; rfl), Lib.hid (by decide), S2⟩
              | false =>
                have hb2 : ¬ 2 < d.length := by have := of_decide_eq_false hq; omega
                have HB2 := Lib.hid hb2
                clear hb2
                go_wp2_with fail
                go_meet
                refine ⟨st, _, rfl, rfl, by decide, hstl, Lib.hid ?_, h1005, S1⟩
                unfold Frm.closing
                rw [if_neg (by omega), if_neg (by omega)]
                simp only [HST.out, HOK.out, if_true]
                rw [if_neg (fun h => HB2.out h.1)]
            · have hok2 : Frm.statusOk st = false := by simpa using hok
              rw [hok2]
              have HOK := Lib.hid hok2
              clear hok hok2
              go_wp2_with fail
              refine (protoErr_any _ _ _).mono ?_
              rintro e w3 ⟨⟨a, rfl⟩, hb⟩
              have HB := Lib.hid hb
              clear hb
              go_wp2_with fail
              go_ret2
              refine Or.inr ⟨b, cur', ps', HGET.out, Or.inl ⟨rfl, ?_, ⟨pos', a, rfl⟩, (S1.out.grow OK.out HB.out).fin⟩⟩
              rw [HD.out]
              unfold Frm.closing
              rw [if_neg (by omega), if_neg (by omega)]
              simp only [HST.out, HOK.out]
              rfl
          case rest =>
            obtain ⟨st, s, rfl, rfl, hsz, hstl, hcl, hst5, hs2⟩ := hcut
            have e6 : ((st : Int) == 1005) = false := by have := hst5.out; simp; omega
            have e7 : ((st : Int) != 1005) = true := by have := hst5.out; simp; omega
            clear c5 f5 hE
            go_wp2_with fail
            refine (closeMsg_any st hstl s hsz wc).mono ?_
            rintro e w3 ⟨⟨ca, cl, cc2, rfl⟩, hb⟩
            have S3 : Hid (St E g o n w3 0 true ff mp' k0 k1 k2 k3 pos' at' K cur' ps' outs) := Lib.hid (hs2.out.grow OK.out hb)
            clear hb
            obtain ⟨kv3, xs3, m3, hm3, hc3, ho3⟩ := S3.out.cl
            have c5 := hc3.cell.2
            have f5 := hc3.free 4129
            have hE : w3.cell? ⟨1, 0, none⟩ = some (errV E.qe) := by
              have := S3.out.below.cell (p := ⟨1, 0, none⟩) (by have := OK.out.b4; show 1 < E.B; omega)
              rw [this]; exact OK.out.eof
            clear hc3 ho3
            go_wp2_with fail
            go_quiet (fail)
            go_wp2_with fail
            go_ret2
            refine Or.inr ⟨b, cur', ps', HGET.out, Or.inr (Or.inl ⟨rfl, st, ?_, ⟨pos', E.qe, rfl⟩, ?_⟩)⟩
            · rw [HD.out]; exact hcl.out
            · exact ((S3.out.fin.setClosed OK.out st).bent OK.out (by exact ⟨rfl, rfl, rfl, Nat.le_refl _, fun _ _ => rfl⟩))
    · have hcv : ∃ str, (convert 52 9 u14).run Tryd.prog wc = .ok (.string str) wc := HPV.out.str
      obtain ⟨str, hcv⟩ := hcv
      go_wp2_with fail
      refine (keep_any E.c E.BO m kv xs str wc HC.out OK.out.cB HS.out.size HO.out (by omega)).mono ?_
      rintro e w1 ⟨rfl, hmv, kv', xs', hc', ho'⟩
      have S1 : Hid (St E g o n w1 0 true ff mp' k0 k1 k2 k3 pos' at' (K + 1) cur' ps' outs) := Lib.hid (HS.out.client OK.out HG.out.2.1 HO.out hmv ⟨kv', xs', m + 1, by omega, hc', ho'⟩ (by omega))
      clear hmv hc' ho' c5 f5 hcv
      go_wp2_with fail
      go_ret2
      exact Or.inr ⟨b, cur', ps', HGET.out, Or.inr (Or.inr ⟨by decide, pos', mp', at', rfl, S1.out⟩)⟩
    · go_wp2_with fail
      go_ret2
      exact Or.inr ⟨b, cur', ps', HGET.out, Or.inr (Or.inr ⟨by decide, pos', mp', at', rfl, HS.out.more⟩)⟩
end Go.Proofs.YtbldebfjgccadaaDoor
