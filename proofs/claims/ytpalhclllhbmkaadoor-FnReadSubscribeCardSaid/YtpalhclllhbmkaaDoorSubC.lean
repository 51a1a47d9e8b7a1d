/- The walk of ReadFilters. -/
import Derived.Test.YtpalhclllhbmkaaDoorSubB
import Derived.Test.YtpalhclllhbmkaaDoorPubI
namespace Go.Proofs.YtpalhclllhbmkaaDoor
open Go.RowKit
attribute [local go_sem ↓] Go.wp_at_zero Go.wp_at_succ
set_option linter.unusedVariables false
set_option linter.unusedSimpArgs false

/-- What stands behind the head: the identifier and the filters; nothing: it is none. -/
def Told (s : ByteArray) (sub : Bool) (o : Option (Nat × List (Nat × Nat × Nat))) : Prop :=
  (s.size < 2 ∧ o = none) ∨ (2 ≤ s.size ∧ tlen s 0 = 0 ∧ o = none) ∨ (2 ≤ s.size ∧ 0 < tlen s 0 ∧ ∃ R, Scan s sub 2 R ∧ o = (match R with | some (x :: l) => some (tlen s 0, x :: l) | _ => none))
theorem Told.det {s : ByteArray} {sub : Bool} {o o' : Option (Nat × List (Nat × Nat × Nat))} (h : Told s sub o) (k : Told s sub o') : o = o' := by
  rcases h with ⟨a, rfl⟩ | ⟨a, b, rfl⟩ | ⟨a, b, R, hR, rfl⟩ <;> rcases k with ⟨c, rfl⟩ | ⟨c, d, rfl⟩ | ⟨c, d, R', hR', rfl⟩ <;> first | rfl | omega | (rw [hR.det hR'])
theorem Told.pos {s : ByteArray} {sub : Bool} {id : Nat} {l : List (Nat × Nat × Nat)} (h : Told s sub (some (id, l))) : 0 < l.length ∧ id < 65536 := by
  rcases h with ⟨_, e⟩ | ⟨_, _, e⟩ | ⟨_, _, R, _, e⟩
  · cases e
  · cases e
  · match R, e with
    | some (x :: r), e => cases e; exact ⟨by simp, tlen_lt s 0⟩
theorem Scan.len {s : ByteArray} {sub : Bool} {p : Nat} {r : Option (List (Nat × Nat × Nat))} (h : Scan s sub p r) : ∀ l, r = some l → p ≤ s.size → l.length + p ≤ s.size := by
  induction h with
  | done p a => intro l e h; cases e; simp; omega
  | cut p a b => intro l e; cases e
  | noq p a b c => intro l e; cases e
  | badq p a b c d => intro l e; cases e
  | qos p r a b c d e ih =>
    intro l el h
    cases r with
    | none => cases el
    | some r0 =>
      have := ih r0 rfl (by omega)
      cases el
      simp; omega
  | plain p r a b e ih =>
    intro l el h
    cases r with
    | none => cases el
    | some r0 =>
      have := ih r0 rfl (by unfold Topic1 at b; omega)
      cases el
      simp; unfold Topic1 at b; omega
theorem Told.len {s : ByteArray} {sub : Bool} {id : Nat} {l : List (Nat × Nat × Nat)} (h : Told s sub (some (id, l))) : l.length ≤ s.size := by
  rcases h with ⟨_, e⟩ | ⟨_, _, e⟩ | ⟨_, _, R, hR, e⟩
  · cases e
  · cases e
  · match R, e, hR with
    | some (x :: r), e, hR => cases e; have := hR.len _ rfl (by omega); omega
/-- What mqttParseSubsOrUnsubs tells, whatever stands there. -/
def Post33o (o : Option (Nat × List (Nat × Nat × Nat))) (g cap B : Nat) (s : ByteArray) (w : World) : Ending → World → Prop :=
  match o with
  | some (id, l) => Good33 l id g cap B s w
  | none => Bad33 B w

set_option maxHeartbeats 2000000 in
theorem Subs_short (sub : Bool) (B b d g cap : Nat) (s : ByteArray) (hB : B ≤ b) (w : World) (hR : Rd w b g 0 cap 0 s) (h2 : s.size < 2) :
    Calls Tryd.prog 33 #[.pointer (some ⟨d, 0, none⟩), .pointer (some ⟨b, 0, none⟩), .int .u8 2, .int .i64 s.size, .bool sub] w (Bad33 B w) := by
  have bl := hR.b_lt
  cases sub
  all_goals
    go_enter Tryd.func33, Tryd.ntmps33
    go_wp2_with fail
    refine (PI_short b g 0 cap 0 s w hR (by omega)).mono ?_
    rintro e w1 ⟨a, rfl, hb1⟩
    have W1 : Hid (Below B w w1) := hb1.mono (by omega)
    clear hb1
    go_wp2_with fail
    go_ret3
    exact ⟨⟨_, rfl⟩, W1.out⟩
set_option maxHeartbeats 2000000 in
theorem Subs_zero (sub : Bool) (B b d g cap : Nat) (s : ByteArray) (hB : B ≤ b) (hcap : s.size ≤ cap) (w : World) (hR : Rd w b g 0 cap 0 s) (h2 : 2 ≤ s.size) (h0 : tlen s 0 = 0) (q : Addr) (hq : w.cell? ⟨5, 0, none⟩ = some (.iface 117 (.pointer (some q)))) (hb5 : 5 < b) :
    Calls Tryd.prog 33 #[.pointer (some ⟨d, 0, none⟩), .pointer (some ⟨b, 0, none⟩), .int .u8 2, .int .i64 s.size, .bool sub] w (Bad33 B w) := by
  have bl := hR.b_lt
  have H0 := Lib.hid h0
  have HQ := Lib.hid hq
  clear h0 hq
  cases sub
  all_goals
    go_enter Tryd.func33, Tryd.ntmps33
    go_wp2_with fail
    refine (PI_zero b g 0 cap 0 s w hR (by omega) hcap H0.out q HQ.out hb5).mono ?_
    rintro e w1 ⟨a, rfl, hb1⟩
    have W1 : Hid (Below B w w1) := grown_below hb1 hB (by omega)
    clear hb1
    go_wp2_with fail
    go_ret3
    exact ⟨⟨_, rfl⟩, W1.out⟩

theorem Subs33 (sub : Bool) (B b d g cap : Nat) (s : ByteArray) (hB : B ≤ b) (hcap : s.size ≤ cap) (hs : s.size ≤ 1000000) (w : World) (hR : Rd w b g 0 cap 0 s) (o : Option (Nat × List (Nat × Nat × Nat))) (ho : Told s sub o)
    (hq : 2 ≤ s.size → tlen s 0 = 0 → 5 < b ∧ ∃ q, w.cell? ⟨5, 0, none⟩ = some (.iface 117 (.pointer (some q)))) :
    Calls Tryd.prog 33 #[.pointer (some ⟨d, 0, none⟩), .pointer (some ⟨b, 0, none⟩), .int .u8 2, .int .i64 s.size, .bool sub] w (Post33o o g cap B s w) := by
  rcases ho with ⟨a, rfl⟩ | ⟨a, h0, rfl⟩ | ⟨a, h0, R, hS, rfl⟩
  · exact Subs_short sub B b d g cap s hB w hR a
  · obtain ⟨h5, q, hq⟩ := hq a h0
    exact Subs_zero sub B b d g cap s hB hcap w hR a h0 q hq h5
  · have key : Calls Tryd.prog 33 #[.pointer (some ⟨d, 0, none⟩), .pointer (some ⟨b, 0, none⟩), .int .u8 2, .int .i64 s.size, .bool sub] w (Post33 R (tlen s 0) g cap B s w) := by
      cases sub with
      | true => exact Subs_any B b d g cap s R hB hcap hs w hR a h0 hS
      | false => exact Unsubs_any B b d g cap s R hB hcap hs w hR a h0 hS
    match R, key with
    | none, key => exact key
    | some [], key => exact key
    | some (x :: l), key => exact key

theorem own_base {w : World} {base base' : Nat} {e : TypeId} {size : Nat} {v : Value} {n : Nat} {xs : List Value} (h : w.ownsRow base e size v n xs) (hb : base' ≤ base) : w.ownsRow base' e size v n xs := by
  obtain ⟨h1, h2 | ⟨g, cap, cur, hv, hbg, hr⟩⟩ := h
  · exact ⟨h1, .inl h2⟩
  · exact ⟨h1, .inr ⟨g, cap, cur, hv, Nat.le_trans hb hbg, hr⟩⟩
theorem below_drew_l {B : Nat} {w w' : World} (h : Below B w.drew w') : Below B w w' := ⟨h.os, h.tape, h.output, h.size, h.block⟩
/-- Filters, as ReadFilters hands them back. -/
def cellsF (g cap : Nat) (l : List (Nat × Nat × Nat)) : List Value := l.flatMap fun f => [.slice (some ⟨g, f.1, none⟩) f.2.1 (cap - f.1), .int .u8 f.2.2]
theorem cellsF_len (g cap : Nat) (l : List (Nat × Nat × Nat)) : (cellsF g cap l).length = l.length * 2 := by
  induction l with
  | nil => rfl
  | cons x l ih => simp [cellsF] at ih ⊢; omega
def Bad26 (w : World) (e : Ending) (w' : World) : Prop := (∃ a, e = .returned (.tuple #[.int .u16 0, .slice none 0 0, .iface 117 (.pointer (some a))])) ∧ Below w.heap.size w w'
def Good26 (l : List (Nat × Nat × Nat)) (id g cap : Nat) (s : ByteArray) (w : World) (e : Ending) (w' : World) : Prop :=
  (∃ v, e = .returned (.tuple #[.int .u16 id, v, .nilIface]) ∧ w'.ownsRow w.heap.size 62 2 v l.length (cellsF g cap l)) ∧ Rd0 w' g cap s ∧ Below w.heap.size w w'
def Post26 (o : Option (Nat × List (Nat × Nat × Nat))) (g cap : Nat) (s : ByteArray) (w : World) : Ending → World → Prop :=
  match o with
  | some (id, l) => Good26 l id g cap s w
  | none => Bad26 w
theorem info62 : (Tryd.prog.info? 62).map (fun i => (i.zero, i.size, i.bytes)) = some (some (.agg #[.slice none 0 0, .int .u8 0]), 2, 32) := by kernel_rfl

set_option maxHeartbeats 4000000 in
set_option maxRecDepth 100000 in
theorem Filters_any (sub : Bool) (g cap : Nat) (s : ByteArray) (hcap : s.size ≤ cap) (hs : s.size ≤ 1000000) (o : Option (Nat × List (Nat × Nat × Nat))) (ho : Told s sub o) (w : World) (hb : Lib.Bytes w g 0 s) (hg : g < w.heap.size)
    (hq : 2 ≤ s.size → tlen s 0 = 0 → 5 < w.heap.size ∧ ∃ q, w.cell? ⟨5, 0, none⟩ = some (.iface 117 (.pointer (some q)))) :
    Calls Tryd.prog 26 #[.slice (some ⟨g, 0, none⟩) s.size cap, .bool sub] w (Post26 o g cap s w) := by
  obtain ⟨i0, hi0, hz0, hz1, hz2⟩ := info_parts info62
  have HB := Lib.hid hb
  have HG := Lib.hid hg
  have HO := Lib.hid ho
  have HQ := Lib.hid hq
  clear hb hg ho hq
  have key : ∀ w1, Only w.heap.size (w.alloc (.cells #[.slice none 0 0, .int .i64 0, .int .i64 0, .slice none 0 0, .bool false] 75)) w1 → w1.heap[w.heap.size]? = some (.cells #[.slice (some ⟨g, 0, none⟩) s.size cap, .int .i64 0, .int .i64 0, .slice none 0 0, .bool false] 75 (0, 0)) →
      Below w.heap.size w (w1.alloc (.cells Tryd.zeroCells93 93)) ∧ Calls Tryd.prog 33 #[.pointer (some ⟨w1.heap.size, 0, none⟩), .pointer (some ⟨w.heap.size, 0, none⟩), .int .u8 2, .int .i64 s.size, .bool sub] (w1.alloc (.cells Tryd.zeroCells93 93)) (Post33o o g cap w.heap.size s (w1.alloc (.cells Tryd.zeroCells93 93))) := by
    intro w1 ho1 hk1
    have sz1 : w1.heap.size = w.heap.size + 1 := by rw [ho1.size]; simp
    have hne : g ≠ w.heap.size := by have := HG.out; omega
    have b1 : Below w.heap.size w (w1.alloc (.cells Tryd.zeroCells93 93)) := (((Below.refl _ _).alloc (Nat.le_refl _) _).trans (ho1.below (Nat.le_refl _))).alloc (by omega) _
    refine ⟨b1, ?_⟩
    refine Subs33 sub w.heap.size w.heap.size w1.heap.size g cap s (Nat.le_refl _) hcap hs _ ?_ o HO.out (fun h2 h0 => ?_)
    · have r1 : Rd w1 w.heap.size g 0 cap 0 s := ⟨hk1, Bytes_only ho1 hne (fun i hi => by
        rw [← HB.out i hi]; exact World.cell?_of_block (Below.heap_alloc w _ g HG.out)), hne, Nat.zero_le _, by omega⟩
      exact r1.kept (Below.heap_alloc _ _ _ (by omega)) (Below.heap_alloc _ _ _ (by have := HG.out; omega))
    · obtain ⟨h5, q, hq⟩ := HQ.out h2 h0
      exact ⟨h5, q, by rw [b1.cell (World.block_lt_of_cell? w _ hq)]; exact hq⟩
  have KEY := Lib.hid key
  clear key
  cases sub
  all_goals
    go_enter Tryd.func26, Tryd.ntmps26
    go_wp2_with fail
    refine (reset_any w.heap.size g cap s _ (heap_alloc_new w _)).mono ?_
    rintro e w1 ⟨rfl, ho1, hk1⟩
    obtain ⟨b1, c1⟩ := KEY.out w1 ho1 hk1
    have W1 := Lib.hid b1
    have sz1 : w1.heap.size = w.heap.size + 1 := by rw [ho1.size]; simp
    have SZ1 := Lib.hid sz1
    clear b1 ho1 hk1 KEY sz1
    go_wp2_with fail
    refine c1.mono ?_
    clear c1
    have sz2 : w.heap.size + 1 < (w1.alloc (.cells Tryd.zeroCells93 93)).heap.size := by have := SZ1.out; simp; omega
    match o, HO.out with
    | none, _ =>
      rintro e w3 ⟨⟨a, rfl⟩, hb3⟩
      have W3 : Hid (Below w.heap.size w w3) := W1.out.trans hb3
      clear hb3 sz2
      go_wp2_with fail
      go_ret3
      exact ⟨⟨_, rfl⟩, W3.out⟩
    | some (id, fs), hto =>
      have hfl : 0 < fs.length := hto.pos.1
      have hfs : fs.length ≤ s.size := hto.len
      rintro e w3 ⟨⟨v, ps, rfl, hown, hf⟩, hr, hb3⟩
      obtain ⟨gv, cv, rfl, hgv, hgl⟩ := hown.form hfl
      have W3 : Hid (Below w.heap.size w w3) := W1.out.trans hb3
      have P3 : Hid (∀ k p, ps[k]? = some p → w3.cell? ⟨gv, k, none⟩ = some (ptrV p)) := Lib.hid (fun k p hp => by
        have hl := hf.1
        have hk := (List.getElem?_eq_some_iff.1 hp).1
        rw [hown.cellAt k (by omega)]
        simp [hp])
      have F3 := Lib.hid hf
      have R3 := Lib.hid hr
      have Z3 : w.heap.size < w3.heap.size := by have := hb3.size; omega
      have PL : Hid (ps.length = fs.length) := Lib.hid hf.1
      clear hown hf hr hb3 sz2 hto
      go_wp2_with fail
      go_loopg [39, 12] fs.length (fun gk i ov w' => ∃ (lv : Value) (k : Nat), lv = ov ∧ i = .int .i64 k ∧ gk + k = fs.length ∧ Hid (w'.ownsRow w3.heap.size 62 2 lv k (cellsF g cap (fs.take k))) ∧ Hid (Below w3.heap.size w3 w'))
      case atStart => exact ⟨.slice none 0 0, 0, rfl, rfl, by omega, World.ownsRow_nil _ _ _ _, Below.refl _ _⟩
      case round =>
        obtain ⟨lv, k, rfl, rfl, hgk, hO, hW⟩ := hrel
        by_cases hlt : k < fs.length
        · have hpl : k < ps.length := by have := PL.out; omega
          obtain ⟨p, hp⟩ : ∃ p, ps[k]? = some p := ⟨_, List.getElem?_eq_getElem hpl⟩
          obtain ⟨⟨f1, f2, f3⟩, hfk⟩ : ∃ f, fs[k]? = some f := ⟨_, List.getElem?_eq_getElem hlt⟩
          have hx := F3.out.2 k p _ hp hfk
          have c0 : wr.cell? ⟨gv, k, none⟩ = some (ptrV p) := by rw [hW.out.cell (p := ⟨gv, k, none⟩) hgl]; exact P3.out k p hp
          have HTK : Hid (fs.take (k + 1) = fs.take k ++ [(f1, f2, f3)]) := Lib.hid (by rw [List.take_add_one, hfk]; rfl)
          clear hp hfk
          obtain ⟨_, str, hk⟩ := hx
          have hk' : wr.heap[p]? = some (.cells #[.string str, .int .u8 f3, .slice (some ⟨g, f1, none⟩) f2 (cap - f1)] 100 (0, 0)) := (hW.out.block p (Lib.lt_of_heap hk)).trans hk
          have c1 : wr.cell? ⟨p, 1, none⟩ = some (.int .u8 f3) := by rw [Lib.cell_of_heap hk']; rfl
          have c2 : wr.cell? ⟨p, 2, none⟩ = some (.slice (some ⟨g, f1, none⟩) f2 (cap - f1)) := by rw [Lib.cell_of_heap hk']; rfl
          have hlw : w3.heap.size ≤ wr.heap.size := hW.out.size
          clear hk hk'
          go_upto_region 13 with fail
          have n1 := World.new_ne wr _ c1
          have n2 := World.new_ne wr _ c2
          have nw1 := Lib.hid (heap_alloc_new wr (.cells #[.slice (some ⟨g, f1, none⟩) f2 (cap - f1), .int .u8 f3] 62))
          go_region_law ((refine step_append_lies _ (by rfl) _ _ _ (by rfl) w3.heap.size 62 i0 _ 2 32 Tryd.underlying58 hi0 hz0 hz1 hz2 rfl (by omega) lv k (cellsF g cap (fs.take k)) (by rfl) ((hO.out.alloc _).drew) ⟨wr.heap.size, 0, none⟩ 1 1 [.slice (some ⟨g, f1, none⟩) f2 (cap - f1), .int .u8 f3] (by rfl) (by rfl) (World.news_of_block (cs := #[.slice (some ⟨g, f1, none⟩) f2 (cap - f1), .int .u8 f3]) (t := 62) (fr := (0, 0)) nw1.out) (by simp [Value.oneCell']) (by omega) (by unfold maxLen; omega) (by omega) (by simp <;> omega) (wr.heap.size + 1) (by simp) ?_; intro gg gcap w4 hown4 hgrow hat hlt4; have OW := Lib.hid hown4; have GR := Lib.hid hgrow; clear hown4 hgrow hat))
          all_goals
            have HZ : Hid (Below w3.heap.size w3 w4) := (hW.out.alloc hlw _).trans (below_drew_l (grown_belowO GR.out (fun k e => (World.ownsRow.lt hO.out _ e).1) (by simp; omega)))
            go_wp2_with fail
            go_roundg (fs.length - (k + 1))
            case measure => omega
            case rel => exact ⟨_, k + 1, rfl, by simp, by omega, Lib.hid (by rw [HTK.out]; simpa [cellsF] using OW.out), HZ⟩
        · have hk : k = fs.length := by omega
          have hd1 : decide ((k : Int) < (fs.length : Int)) = false := decide_eq_false (by omega)
          have hd2 : decide (k < fs.length) = false := decide_eq_false (by omega)
          have HK := Lib.hid hk
          clear hk hlt
          go_wp2_with fail
          go_ret3
          refine ⟨⟨_, rfl, ?_⟩, ⟨R3.out.1, fun i hi => by rw [hW.out.cell (p := ⟨g, i, none⟩) (by show g < w3.heap.size; have := HG.out; omega)]; exact R3.out.2 i hi⟩, W3.out.trans (hW.out.mono (by omega))⟩
          have := hO.out
          rw [HK.out, List.take_length] at this
          exact own_base this (by omega)
end Go.Proofs.YtpalhclllhbmkaaDoor
