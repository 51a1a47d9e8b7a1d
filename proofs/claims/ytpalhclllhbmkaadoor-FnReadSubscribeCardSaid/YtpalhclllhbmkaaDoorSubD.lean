/- The walk of impl.ReadSubscribe. -/
import Derived.Test.YtpalhclllhbmkaaDoorSubC
import Derived.Test.YtpalhclllhbmkaaDoorPubP
namespace Go.Proofs.YtpalhclllhbmkaaDoor
open Go.RowKit
attribute [local go_sem ↓] Go.wp_at_zero Go.wp_at_succ
set_option linter.unusedVariables false
set_option linter.unusedSimpArgs false

theorem Scan.fits {s : ByteArray} {sub : Bool} {p : Nat} {r : Option (List (Nat × Nat × Nat))} (h : Scan s sub p r) : ∀ l, r = some l → ∀ f ∈ l, f.1 + f.2.1 ≤ s.size ∧ f.2.2 ≤ 2 := by
  induction h with
  | done p a => intro l e f hf; cases e; cases hf
  | cut p a b => intro l e; cases e
  | noq p a b c => intro l e; cases e
  | badq p a b c d => intro l e; cases e
  | qos p r a b c d e ih =>
    intro l el f hf
    cases r with
    | none => cases el
    | some r0 =>
      cases el
      rcases List.mem_cons.1 hf with rfl | hf
      · exact ⟨b.2.1, d⟩
      · exact ih r0 rfl f hf
  | plain p r a b e ih =>
    intro l el f hf
    cases r with
    | none => cases el
    | some r0 =>
      cases el
      rcases List.mem_cons.1 hf with rfl | hf
      · exact ⟨b.2.1, Nat.zero_le _⟩
      · exact ih r0 rfl f hf
theorem Told.fits {s : ByteArray} {sub : Bool} {id : Nat} {l : List (Nat × Nat × Nat)} (h : Told s sub (some (id, l))) : ∀ f ∈ l, f.1 + f.2.1 ≤ s.size ∧ f.2.2 ≤ 2 := by
  rcases h with ⟨_, e⟩ | ⟨_, _, e⟩ | ⟨_, _, R, hR, e⟩
  · cases e
  · cases e
  · match R, e, hR with
    | some (x :: r), e, hR => cases e; exact hR.fits _ rfl
theorem cellsF_at (g cap : Nat) (l : List (Nat × Nat × Nat)) : ∀ k f, l[k]? = some f → (cellsF g cap l)[k * 2]? = some (.slice (some ⟨g, f.1, none⟩) f.2.1 (cap - f.1)) ∧ (cellsF g cap l)[k * 2 + 1]? = some (.int .u8 f.2.2) := by
  induction l with
  | nil => intro k f h; cases h
  | cons x l ih =>
    intro k f h
    cases k with
    | zero => simp at h; subst h; exact ⟨rfl, rfl⟩
    | succ k =>
      have := ih k f (by simpa using h)
      rw [show (k + 1) * 2 = k * 2 + 2 by omega]
      simpa [cellsF] using this

/-- A filter as impl has it. -/
def topicS (s : ByteArray) (f : Nat × Nat × Nat) : ByteArray := s.extract f.1 (f.1 + f.2.1)
def cellsI (s : ByteArray) (l : List (Nat × Nat × Nat)) : List Value := l.flatMap fun f => [.string (topicS s f), .int .u8 f.2.2]
def Bad20 (w : World) (e : Ending) (w' : World) : Prop := e = .returned (.tuple #[.int .u16 0, .slice none 0 0, .bool false]) ∧ Below w.heap.size w w'
def Good20 (s : ByteArray) (l : List (Nat × Nat × Nat)) (id : Nat) (w : World) (e : Ending) (w' : World) : Prop :=
  (∃ v, e = .returned (.tuple #[.int .u16 id, v, .bool true]) ∧ w'.ownsRow w.heap.size 44 2 v l.length (cellsI s l)) ∧ Below w.heap.size w w'
def Post20 (s : ByteArray) (o : Option (Nat × List (Nat × Nat × Nat))) (w : World) : Ending → World → Prop :=
  match o with
  | some (id, l) => Good20 s l id w
  | none => Bad20 w
theorem info44 : (Tryd.prog.info? 44).map (fun i => (i.zero, i.size, i.bytes)) = some (some (.agg #[.string ⟨#[]⟩, .int .u8 0]), 2, 24) := by kernel_rfl

set_option maxHeartbeats 4000000 in
set_option maxRecDepth 100000 in
theorem Subscribe_any (sub : Bool) (s : ByteArray) (hs : s.size ≤ 1000000) (o : Option (Nat × List (Nat × Nat × Nat))) (ho : Told s sub o) (w : World)
    (hq : 2 ≤ s.size → tlen s 0 = 0 → 5 < w.heap.size ∧ ∃ q, w.cell? ⟨5, 0, none⟩ = some (.iface 117 (.pointer (some q)))) :
    Calls Tryd.prog 20 #[.string s, .bool sub] w (Post20 s o w) := by
  obtain ⟨i0, hi0, hz0, hz1, hz2⟩ := info_parts info44
  have HO := Lib.hid ho
  have HQ := Lib.hid hq
  clear ho hq
  have cv := conv_str
  go_enter Tryd.func20, Tryd.ntmps20
  go_wp2_with fail
  have hsz : (Lib.bytesWorld w 5 s).heap.size = w.heap.size + 1 := by rw [Lib.bytesWorld_size]
  have b0 : Below w.heap.size w (Lib.bytesWorld w 5 s) := below_bytes _ _ s (Nat.le_refl _)
  refine (Filters_any sub w.heap.size _ s (grownCap_ge _ _ _ _) hs o HO.out _ (bytes_of_conv w s) (by omega) (fun h2 h0 => ?_)).mono ?_
  · obtain ⟨h5, q, hq⟩ := HQ.out h2 h0
    exact ⟨by omega, q, by rw [b0.cell (World.block_lt_of_cell? w _ hq)]; exact hq⟩
  generalize grownCap w s.size 0 5 = cap
  have B0 := Lib.hid b0
  have SZ := Lib.hid hsz
  clear b0 hsz cv HQ
  match o, HO.out with
  | none, _ =>
    rintro e w1 ⟨⟨a, rfl⟩, hb1⟩
    have W1 : Hid (Below w.heap.size w w1) := B0.out.trans (hb1.mono (by have := SZ.out; omega))
    clear hb1
    go_wp2_with fail
    go_ret3
    exact ⟨rfl, W1.out⟩
  | some (id, fs), hto =>
    have hfl : 0 < fs.length := hto.pos.1
    have hfs : fs.length ≤ s.size := hto.len
    rintro e w1 ⟨⟨v, rfl, hown⟩, hr, hb1⟩
    obtain ⟨gv, cv, rfl, hgv, hgl⟩ := hown.form hfl
    have W1 : Hid (Below w.heap.size w w1) := B0.out.trans (hb1.mono (by have := SZ.out; omega))
    have P1 : Hid (∀ k f, fs[k]? = some f → w1.cell? ⟨gv, k * 2, none⟩ = some (.slice (some ⟨w.heap.size, f.1, none⟩) f.2.1 (cap - f.1)) ∧ w1.cell? ⟨gv, k * 2 + 1, none⟩ = some (.int .u8 f.2.2)) := Lib.hid (fun k f hf => by
      have hk := (List.getElem?_eq_some_iff.1 hf).1
      obtain ⟨h1, h2⟩ := cellsF_at w.heap.size cap fs k f hf
      exact ⟨by rw [hown.cellAt (k * 2) (by omega)]; exact h1, by rw [hown.cellAt (k * 2 + 1) (by omega)]; exact h2⟩)
    have R1 := Lib.hid hr
    have FT : Hid (∀ f ∈ fs, f.1 + f.2.1 ≤ s.size ∧ f.2.2 ≤ 2) := Lib.hid hto.fits
    have Z1 : w.heap.size < w1.heap.size := by have := hb1.size; have := SZ.out; omega
    clear hown hr hb1 hto hgv
    go_wp2_with fail
    go_loopg [9, 5] fs.length (fun gk i ov w' => ∃ (lv : Value) (k : Nat), lv = ov ∧ i = .int .i64 k ∧ gk + k = fs.length ∧ Hid (w'.ownsRow w1.heap.size 44 2 lv k (cellsI s (fs.take k))) ∧ Hid (Below w1.heap.size w1 w'))
    case atStart => exact ⟨.slice none 0 0, 0, rfl, rfl, by omega, World.ownsRow_nil _ _ _ _, Below.refl _ _⟩
    case round =>
      obtain ⟨lv, k, rfl, rfl, hgk, hO, hW⟩ := hrel
      by_cases hlt : k < fs.length
      · obtain ⟨⟨f1, f2, f3⟩, hfk⟩ : ∃ f, fs[k]? = some f := ⟨_, List.getElem?_eq_getElem hlt⟩
        obtain ⟨p0, p1⟩ := P1.out k _ hfk
        have c0 : wr.cell? ⟨gv, k * 2, none⟩ = some (.slice (some ⟨w.heap.size, f1, none⟩) f2 (cap - f1)) := by rw [hW.out.cell (p := ⟨gv, k * 2, none⟩) hgl]; exact p0
        have c1 : wr.cell? ⟨gv, k * 2 + 1, none⟩ = some (.int .u8 f3) := by rw [hW.out.cell (p := ⟨gv, k * 2 + 1, none⟩) hgl]; exact p1
        have HTK : Hid (fs.take (k + 1) = fs.take k ++ [(f1, f2, f3)]) := Lib.hid (by rw [List.take_add_one, hfk]; rfl)
        have hft := FT.out _ (List.mem_of_getElem? hfk)
        have R2 : Hid (Rd0 wr.drew w.heap.size cap s) := Lib.hid ⟨R1.out.1, fun i hi => by
          have h1 := R1.out.2 i hi
          rw [show wr.drew.cell? ⟨w.heap.size, i, none⟩ = wr.cell? ⟨w.heap.size, i, none⟩ from rfl, hW.out.cell (World.block_lt_of_cell? w1 _ h1)]; exact h1⟩
        have hcv : (convert 33 9 (.slice (some ⟨w.heap.size, f1, none⟩) f2 (cap - f1))).run Tryd.prog wr.drew = .ok (.string (topicS s (f1, f2, f3))) wr.drew := conv_part f1 f2 s hft.1 _ _ _ _ R2.out
        have hlw : w1.heap.size ≤ wr.heap.size := hW.out.size
        clear hfk p0 p1 hft
        obtain ⟨tp, htp⟩ : ∃ tp, topicS s (f1, f2, f3) = tp := ⟨_, rfl⟩
        rw [htp] at hcv
        have HTP := Lib.hid htp
        clear htp
        go_upto_region 7 with fail
        have n0 := World.new_ne wr _ c0
        have n1 := World.new_ne wr _ c1
        have nw1 := Lib.hid (heap_alloc_new wr (.cells #[.string tp, .int .u8 f3] 44))
        go_region_law ((refine step_append_lies _ (by rfl) _ _ _ (by rfl) w1.heap.size 44 i0 _ 2 24 Tryd.underlying40 hi0 hz0 hz1 hz2 rfl (by omega) lv k (cellsI s (fs.take k)) (by rfl) ((hO.out.alloc _).drew) ⟨wr.heap.size, 0, none⟩ 1 1 [.string tp, .int .u8 f3] (by rfl) (by rfl) (World.news_of_block (cs := #[.string tp, .int .u8 f3]) (t := 44) (fr := (0, 0)) nw1.out) (by simp [Value.oneCell']) (by omega) (by unfold maxLen; omega) (by omega) (by simp <;> omega) (wr.heap.size + 1) (by simp) ?_; intro gg gcap w4 hown4 hgrow hat hlt4; have OW := Lib.hid hown4; have GR := Lib.hid hgrow; clear hown4 hgrow hat))
        all_goals
          have HZ : Hid (Below w1.heap.size w1 w4) := (hW.out.alloc hlw _).trans (below_drew_l (grown_belowO GR.out (fun k e => (World.ownsRow.lt hO.out _ e).1) (by simp; omega)))
          go_wp2_with fail
          go_roundg (fs.length - (k + 1))
          case measure => omega
          case rel => exact ⟨_, k + 1, rfl, by simp, by omega, Lib.hid (by rw [HTK.out]; simpa [cellsI, HTP.out] using OW.out), HZ⟩
      · have hk : k = fs.length := by omega
        have hd1 : decide ((k : Int) < (fs.length : Int)) = false := decide_eq_false (by omega)
        have hd2 : decide (k < fs.length) = false := decide_eq_false (by omega)
        have HK := Lib.hid hk
        clear hk hlt
        go_wp2_with fail
        go_ret3
        refine ⟨⟨_, rfl, ?_⟩, W1.out.trans (hW.out.mono (by omega))⟩
        have := hO.out
        rw [HK.out, List.take_length] at this
        exact own_base this (by omega)
end Go.Proofs.YtpalhclllhbmkaaDoor
