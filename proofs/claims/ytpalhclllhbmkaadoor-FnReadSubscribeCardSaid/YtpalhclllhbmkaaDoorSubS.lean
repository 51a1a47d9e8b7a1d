/- The walk of the reference's ReadSubscribe. -/
import Derived.Test.YtpalhclllhbmkaaDoorSubD
namespace Go.Proofs.YtpalhclllhbmkaaDoor
open Go.RowKit
attribute [local go_sem ↓] Go.wp_at_zero Go.wp_at_succ
set_option linter.unusedVariables false
set_option linter.unusedSimpArgs false

/-- What is told of an identifier and of filters. -/
def toldO (id : Nat) (R : Option (List (Nat × Nat × Nat))) : Option (Nat × List (Nat × Nat × Nat)) := if id = 0 then none else match R with | some (x :: l) => some (id, x :: l) | _ => none
theorem Post20.no {s : ByteArray} {R : Option (List (Nat × Nat × Nat))} {id : Nat} {w : World} {e : Ending} {w' : World} (hR : id = 0 ∨ R = none ∨ R = some []) (h : Bad20 w e w') : Post20 s (toldO id R) w e w' := by
  have e0 : toldO id R = none := by
    rcases hR with rfl | rfl | rfl <;> simp [toldO]
  rw [e0]; exact h
theorem Post20.yes {s : ByteArray} {R : Option (List (Nat × Nat × Nat))} {id : Nat} {w : World} {e : Ending} {w' : World} {l : List (Nat × Nat × Nat)} (hR : R = some l) (hl : 0 < l.length) (hid : 0 < id) (h : Good20 s l id w e w') : Post20 s (toldO id R) w e w' := by
  have e0 : toldO id R = some (id, l) := by
    subst hR
    unfold toldO
    rw [if_neg (by omega)]
    cases l with
    | nil => simp at hl
    | cons x l => rfl
  rw [e0]; exact h

theorem own_shape2 {w : World} {B E n : Nat} {v : Value} {xs : List Value} (h : w.ownsRow B E 2 v n xs) : ∃ A c, v = .slice A n c := by
  rcases h.2 with ⟨rfl, rfl⟩ | ⟨g, cap, cur, rfl, _⟩
  · exact ⟨_, _, rfl⟩
  · exact ⟨_, _, rfl⟩
set_option maxHeartbeats 8000000 in
set_option maxRecDepth 100000 in
theorem Spec_any (s : ByteArray) (R : Option (List (Nat × Nat × Nat))) (hs : s.size ≤ 1000000) (h2 : 2 ≤ s.size) (hS : Scan s true 2 R) (w : World) :
    Calls Tryd.prog 19 #[.string s, .bool true] w (Post20 s (toldO (tlen s 0) R) w) := by
  obtain ⟨i0, hi0', hz0, hz1, hz2⟩ := info_parts info44
  have hi0 : ∀ W : World, (Instr.index 9 (.string s) (.int .i64 0)).run Tryd.prog W = .ok (.int .u8 (by8 s 0)) W := run_by8 s 0 (by omega)
  have hi1 : ∀ W : World, (Instr.index 9 (.string s) (.int .i64 1)).run Tryd.prog W = .ok (.int .u8 (by8 s 1)) W := run_by8 s 1 (by omega)
  have or2 := u16_or' _ _ (by8_lt s 0) (by8_lt s 1)
  have hid0 : by8 s 0 * 256 + by8 s 1 = tlen s 0 := rfl
  rw [hid0] at or2
  clear hid0
  have wr0 : IntKind.u16.wrap (by8 s 0 : Int) = by8 s 0 := wraps_u16 _ (by omega) (by have := by8_lt s 0; omega)
  have wr1 : IntKind.u16.wrap ((by8 s 0 : Int) * 256) = (by8 s 0 : Int) * 256 := wraps_u16 _ (by omega) (by have := by8_lt s 0; omega)
  have wr2 : IntKind.u16.wrap (by8 s 1 : Int) = by8 s 1 := wraps_u16 _ (by omega) (by have := by8_lt s 1; omega)
  have hidl := tlen_lt s 0
  generalize tlen s 0 = id at *
  generalize by8 s 0 = x at *
  generalize by8 s 1 = y at *
  have HS := Lib.hid hS
  clear hS
  go_enter Tryd.func19, Tryd.ntmps19
  go_wp2_with fail
  go_quiet (fail)
  rename_i nq
  go_wp2_with fail
  have W0 : Hid (Below w.heap.size w (w.drewN nq)) := below_drewN (Below.refl _ _) _
  clear hi0 hi1 wr0 wr1 wr2 or2
  go_loopg [4, 5, 7] (s.size - 2) (fun gk v4 v5 v7 w' => ∃ (lv : Value) (p : Nat) (fs : List (Nat × Nat × Nat)), lv = v5 ∧ v4 = .int .u16 id ∧ v7 = .int .i64 p ∧ gk + p = s.size ∧ 2 ≤ p ∧ fs.length ≤ p ∧ Hid (w'.ownsRow w.heap.size 44 2 lv fs.length (cellsI s fs)) ∧ Hid (Below w.heap.size w w') ∧ Hid (∃ r, Scan s true p r ∧ R = r.map (fs ++ ·)))
  case atStart => exact ⟨.slice none 0 0, 2, [], rfl, rfl, rfl, by omega, by omega, by simp, World.ownsRow_nil _ _ _ _, W0, ⟨R, HS.out, by cases R <;> simp⟩⟩
  case round =>
    obtain ⟨lv, p, fs, rfl, rfl, rfl, hgk, hp2, hfl, ho, hw, hsc⟩ := hrel
    obtain ⟨r, hsc, hRr⟩ := hsc.out
    cases hsc with
    | done _ hd =>
      have hlt : decide ((p : Int) < (s.size : Int)) = false := decide_eq_false (by omega)
      have hlt2 : decide (p < s.size) = false := decide_eq_false (by omega)
      have HRr : Hid (R = some fs) := Lib.hid (by rw [hRr]; simp)
      clear hd hRr
      obtain ⟨A, c, hlv⟩ := own_shape2 ho.out
      subst hlv
      by_cases hid0 : id = 0
      · have HI := Lib.hid hid0
        have e0 : ((id : Int) == 0) = true := by simp [hid0]
        have e1 : (id == 0) = true := by simp [hid0]
        clear hid0
        go_wp2_with fail
        go_ret3
        exact Post20.no (Or.inl HI.out) ⟨rfl, hw.out⟩
      · have e0 : ((id : Int) == 0) = false := beq_eq_false_iff_ne.mpr (by omega)
        have e1 : (id == 0) = false := beq_eq_false_iff_ne.mpr hid0
        have hid1 : 0 < id := by omega
        clear hid0
        by_cases hf0 : fs.length = 0
        · have HF0 : Hid (fs = []) := Lib.hid (List.eq_nil_of_length_eq_zero hf0)
          have e2 : ((fs.length : Int) == 0) = true := by simp [hf0]
          have e3 : (fs.length == 0) = true := by simp [hf0]
          clear hf0
          go_wp2_with fail
          go_ret3
          exact Post20.no (Or.inr (Or.inr (by rw [HRr.out, HF0.out]))) ⟨rfl, hw.out⟩
        · have hf1 : 0 < fs.length := by omega
          have e2 : ((fs.length : Int) == 0) = false := beq_eq_false_iff_ne.mpr (by omega)
          have e3 : (fs.length == 0) = false := beq_eq_false_iff_ne.mpr (by omega)
          clear hf0
          go_wp2_with fail
          go_ret3
          exact Post20.yes HRr.out hf1 hid1 ⟨⟨_, rfl, ho.out⟩, hw.out⟩
    | cut _ h1 h2 =>
      have hlt : decide ((p : Int) < (s.size : Int)) = true := decide_eq_true (by omega)
      have HRr : Hid (R = none) := Lib.hid (by rw [hRr]; rfl)
      clear hRr
      rcases h2 with h2 | ⟨h2, h3⟩
      · go_wp2_with fail
        refine (mqttText_short s p (by omega) h2 _).mono ?_
        rintro e w2 ⟨rfl, hb2⟩
        have W2 : Hid (Below w.heap.size w w2) := hw.out.trans (hb2.mono hw.out.size)
        clear hb2
        go_wp2_with fail
        go_ret3
        exact Post20.no (Or.inr (Or.inl HRr.out)) ⟨rfl, W2.out⟩
      · go_wp2_with fail
        refine (mqttText_long s p (by omega) h2 h3 _).mono ?_
        rintro e w2 ⟨rfl, hb2⟩
        have W2 : Hid (Below w.heap.size w w2) := hw.out.trans (hb2.mono hw.out.size)
        clear hb2
        go_wp2_with fail
        go_ret3
        exact Post20.no (Or.inr (Or.inl HRr.out)) ⟨rfl, W2.out⟩
    | noq _ _ ht h1 =>
      have hlt : decide ((p : Int) < (s.size : Int)) = true := decide_eq_true (by obtain ⟨t1, t2, t3⟩ := ht; omega)
      have en := extract_nil s (p + 2) (p + 2 + tlen s p) ht.2.1
      rw [decide_eq_false (by have := ht.1; omega)] at en
      obtain ⟨t1, t2, t3⟩ := ht
      clear t3
      obtain ⟨n, hN⟩ : ∃ n, tlen s p = n := ⟨_, rfl⟩
      rw [hN] at t1 t2 h1 en
      have hn65 : n ≤ 65535 := by have := tlen_lt s p; omega
      have HN := Lib.hid hN
      have HRr : Hid (R = none) := Lib.hid (by rw [hRr]; rfl)
      clear hN hRr
      go_wp2_with fail
      refine (mqttText_ok s p (by omega) (by rw [HN.out]; exact t2) _).mono ?_
      rw [HN.out]
      rintro e w2 ⟨rfl, hb2⟩
      have W2 : Hid (Below w.heap.size w w2) := hw.out.trans (hb2.mono hw.out.size)
      have O2 : Hid (w2.ownsRow w.heap.size 44 2 lv fs.length (cellsI s fs)) := World.ownsRow.kept (row := none) ho.out ⟨hb2.os, hb2.tape, hb2.output, hb2.size, fun i hi _ => hb2.block i hi⟩ (by cases hq : lv.ownBlock <;> simp)
      have Z2 : w.heap.size ≤ w2.heap.size := Nat.le_trans hw.out.size hb2.size
      clear hb2 ho hw
      have pc : ((p + 2 + n : Nat) : Int) = (p : Int) + 2 + (n : Int) := by omega
      have hge : decide ((s.size : Int) ≤ (p : Int) + 2 + (n : Int)) = true := decide_eq_true (by omega)
      generalize htp : s.extract (p + 2) (p + 2 + n) = tp at en
      have H1 := Lib.hid h1
      clear htp h1
      go_wp2_with fail
      go_ret3
      exact Post20.no (Or.inr (Or.inl HRr.out)) ⟨rfl, W2.out.alloc Z2 _⟩
    | badq _ _ ht h1 h2 =>
      have hlt : decide ((p : Int) < (s.size : Int)) = true := decide_eq_true (by obtain ⟨t1, t2, t3⟩ := ht; omega)
      have en := extract_nil s (p + 2) (p + 2 + tlen s p) ht.2.1
      rw [decide_eq_false (by have := ht.1; omega)] at en
      obtain ⟨t1, t2, t3⟩ := ht
      clear t3
      obtain ⟨n, hN⟩ : ∃ n, tlen s p = n := ⟨_, rfl⟩
      rw [hN] at t1 t2 h1 h2 en
      have hn65 : n ≤ 65535 := by have := tlen_lt s p; omega
      have HN := Lib.hid hN
      have HRr : Hid (R = none) := Lib.hid (by rw [hRr]; rfl)
      obtain ⟨q, hq⟩ : ∃ q, by8 s (p + 2 + n) = q := ⟨_, rfl⟩
      rw [hq] at h2
      have hix : ∀ W : World, (Instr.index 9 (.string s) (.int .i64 ((p : Int) + 2 + (n : Int)))).run Tryd.prog W = .ok (.int .u8 q) W := by have := run_by8 s (p + 2 + n) h1; rw [hq] at this; simpa using this
      clear hN hRr hq
      go_wp2_with fail
      refine (mqttText_ok s p (by omega) (by rw [HN.out]; exact t2) _).mono ?_
      rw [HN.out]
      rintro e w2 ⟨rfl, hb2⟩
      have W2 : Hid (Below w.heap.size w w2) := hw.out.trans (hb2.mono hw.out.size)
      have O2 : Hid (w2.ownsRow w.heap.size 44 2 lv fs.length (cellsI s fs)) := World.ownsRow.kept (row := none) ho.out ⟨hb2.os, hb2.tape, hb2.output, hb2.size, fun i hi _ => hb2.block i hi⟩ (by cases hq : lv.ownBlock <;> simp)
      have Z2 : w.heap.size ≤ w2.heap.size := Nat.le_trans hw.out.size hb2.size
      clear hb2 ho hw
      have pc : ((p + 2 + n : Nat) : Int) = (p : Int) + 2 + (n : Int) := by omega
      have hge : decide ((s.size : Int) ≤ (p : Int) + 2 + (n : Int)) = false := decide_eq_false (by omega)
      have hq2 : decide ((q : Int) > 2) = true := decide_eq_true (by omega)
      have hq3 : decide (2 < (q : Int)) = true := decide_eq_true (by omega)
      generalize htp : s.extract (p + 2) (p + 2 + n) = tp at en
      clear htp
      go_wp2_with fail
      go_ret3
      exact Post20.no (Or.inr (Or.inl HRr.out)) ⟨rfl, W2.out.alloc Z2 _⟩
    | plain _ _ h => cases h
    | qos _ r _ ht h1 h2 hn =>
      have hlt : decide ((p : Int) < (s.size : Int)) = true := decide_eq_true (by obtain ⟨t1, t2, t3⟩ := ht; omega)
      have en := extract_nil s (p + 2) (p + 2 + tlen s p) ht.2.1
      rw [decide_eq_false (by have := ht.1; omega)] at en
      obtain ⟨t1, t2, t3⟩ := ht
      clear t3
      obtain ⟨n, hN⟩ : ∃ n, tlen s p = n := ⟨_, rfl⟩
      rw [hN] at t1 t2 h1 h2 hn hRr en
      have hn65 : n ≤ 65535 := by have := tlen_lt s p; omega
      have HN := Lib.hid hN
      obtain ⟨q, hq⟩ : ∃ q, by8 s (p + 2 + n) = q := ⟨_, rfl⟩
      rw [hq] at h2 hRr
      have hix : ∀ W : World, (Instr.index 9 (.string s) (.int .i64 ((p : Int) + 2 + (n : Int)))).run Tryd.prog W = .ok (.int .u8 q) W := by have := run_by8 s (p + 2 + n) h1; rw [hq] at this; simpa using this
      have HNX := Lib.hid hn
      have HRr := Lib.hid hRr
      clear hN hq hn hRr
      go_wp2_with fail
      refine (mqttText_ok s p (by omega) (by rw [HN.out]; exact t2) _).mono ?_
      rw [HN.out]
      rintro e w2 ⟨rfl, hb2⟩
      have W2 : Hid (Below w.heap.size w w2) := hw.out.trans (hb2.mono hw.out.size)
      have O2 : Hid (w2.ownsRow w.heap.size 44 2 lv fs.length (cellsI s fs)) := World.ownsRow.kept (row := none) ho.out ⟨hb2.os, hb2.tape, hb2.output, hb2.size, fun i hi _ => hb2.block i hi⟩ (by cases hq : lv.ownBlock <;> simp)
      have Z2 : w.heap.size ≤ w2.heap.size := Nat.le_trans hw.out.size hb2.size
      clear hb2 ho hw
      have pc : ((p + 2 + n : Nat) : Int) = (p : Int) + 2 + (n : Int) := by omega
      have hq2 : decide ((q : Int) > 2) = false := decide_eq_false (by omega)
      have hq3 : decide (2 < (q : Int)) = false := decide_eq_false (by omega)
      have hge : decide ((s.size : Int) ≤ (p : Int) + 2 + (n : Int)) = false := decide_eq_false (by omega)
      generalize htp : s.extract (p + 2) (p + 2 + n) = tp at en
      have HTP := Lib.hid htp
      clear htp
      have nw1 := Lib.hid (show ((w2.alloc (.cells #[.string tp, .int .u8 q] 44)).alloc (.cells #[.string tp, .int .u8 q] 44)).heap[w2.heap.size + 1]? = some (.cells #[.string tp, .int .u8 q] 44) by have := heap_alloc_new (w2.alloc (.cells #[.string tp, .int .u8 q] 44)) (.cells #[.string tp, .int .u8 q] 44); simpa using this)
      have WA : Hid (Below w.heap.size w ((w2.alloc (.cells #[.string tp, .int .u8 q] 44)).alloc (.cells #[.string tp, .int .u8 q] 44))) := (W2.out.alloc Z2 _).alloc (by simp; omega) _
      go_wp2_with (at_builtin; refine wpList_append_lies _ rfl (.tmp 59) (.tmp 61) 40 rfl w.heap.size 44 i0 _ 2 24 Tryd.underlying40 hi0' hz0 hz1 hz2 rfl (by omega) lv fs.length (cellsI s fs) rfl ((O2.out.alloc _).alloc _) ⟨w2.heap.size + 1, 0, none⟩ 1 1 [.string tp, .int .u8 q] rfl rfl (World.news_of_block (cs := #[.string tp, .int .u8 q]) (t := 44) (fr := (0, 0)) nw1.out) (by simp [Value.oneCell']) (by omega) (by unfold maxLen; omega) (by omega) (by simp; omega) (w2.heap.size + 2) (by simp) ?_)
      intro gg gcap w4 hown hgrow hat hlt4
      have W4 : Hid (Below w.heap.size w w4) := WA.out.trans (grown_belowO hgrow (fun k e => (World.ownsRow.lt O2.out _ e).1) (by simp; omega))
      have O4 := Lib.hid hown
      clear hown hgrow hat nw1 WA
      go_wp2_with fail
      go_roundg (s.size - (p + 2 + n + 1))
      case measure => omega
      case rel =>
        refine ⟨_, (p + 2 + n + 1), fs ++ [(p + 2, n, q)], rfl, rfl, by simp, by omega, by omega, by simp; omega, ?_, W4, ⟨r, HNX.out, ?_⟩⟩
        · refine Lib.hid ?_
          have := O4.out
          have e2 : topicS s (p + 2, n, q) = tp := HTP.out
          simpa [cellsI, e2] using this
        · rw [HRr.out]
          cases r <;> simp
set_option maxHeartbeats 8000000 in
set_option maxRecDepth 100000 in
theorem SpecU_any (s : ByteArray) (R : Option (List (Nat × Nat × Nat))) (hs : s.size ≤ 1000000) (h2 : 2 ≤ s.size) (hS : Scan s false 2 R) (w : World) :
    Calls Tryd.prog 19 #[.string s, .bool false] w (Post20 s (toldO (tlen s 0) R) w) := by
  obtain ⟨i0, hi0', hz0, hz1, hz2⟩ := info_parts info44
  have hi0 : ∀ W : World, (Instr.index 9 (.string s) (.int .i64 0)).run Tryd.prog W = .ok (.int .u8 (by8 s 0)) W := run_by8 s 0 (by omega)
  have hi1 : ∀ W : World, (Instr.index 9 (.string s) (.int .i64 1)).run Tryd.prog W = .ok (.int .u8 (by8 s 1)) W := run_by8 s 1 (by omega)
  have or2 := u16_or' _ _ (by8_lt s 0) (by8_lt s 1)
  have hid0 : by8 s 0 * 256 + by8 s 1 = tlen s 0 := rfl
  rw [hid0] at or2
  clear hid0
  have wr0 : IntKind.u16.wrap (by8 s 0 : Int) = by8 s 0 := wraps_u16 _ (by omega) (by have := by8_lt s 0; omega)
  have wr1 : IntKind.u16.wrap ((by8 s 0 : Int) * 256) = (by8 s 0 : Int) * 256 := wraps_u16 _ (by omega) (by have := by8_lt s 0; omega)
  have wr2 : IntKind.u16.wrap (by8 s 1 : Int) = by8 s 1 := wraps_u16 _ (by omega) (by have := by8_lt s 1; omega)
  have hidl := tlen_lt s 0
  generalize tlen s 0 = id at *
  generalize by8 s 0 = x at *
  generalize by8 s 1 = y at *
  have HS := Lib.hid hS
  clear hS
  go_enter Tryd.func19, Tryd.ntmps19
  go_wp2_with fail
  go_quiet (fail)
  rename_i nq
  go_wp2_with fail
  have W0 : Hid (Below w.heap.size w (w.drewN nq)) := below_drewN (Below.refl _ _) _
  clear hi0 hi1 wr0 wr1 wr2 or2
  go_loopg [4, 5, 7] (s.size - 2) (fun gk v4 v5 v7 w' => ∃ (lv : Value) (p : Nat) (fs : List (Nat × Nat × Nat)), lv = v5 ∧ v4 = .int .u16 id ∧ v7 = .int .i64 p ∧ gk + p = s.size ∧ 2 ≤ p ∧ fs.length ≤ p ∧ Hid (w'.ownsRow w.heap.size 44 2 lv fs.length (cellsI s fs)) ∧ Hid (Below w.heap.size w w') ∧ Hid (∃ r, Scan s false p r ∧ R = r.map (fs ++ ·)))
  case atStart => exact ⟨.slice none 0 0, 2, [], rfl, rfl, rfl, by omega, by omega, by simp, World.ownsRow_nil _ _ _ _, W0, ⟨R, HS.out, by cases R <;> simp⟩⟩
  case round =>
    obtain ⟨lv, p, fs, rfl, rfl, rfl, hgk, hp2, hfl, ho, hw, hsc⟩ := hrel
    obtain ⟨r, hsc, hRr⟩ := hsc.out
    cases hsc with
    | done _ hd =>
      have hlt : decide ((p : Int) < (s.size : Int)) = false := decide_eq_false (by omega)
      have hlt2 : decide (p < s.size) = false := decide_eq_false (by omega)
      have HRr : Hid (R = some fs) := Lib.hid (by rw [hRr]; simp)
      clear hd hRr
      obtain ⟨A, c, hlv⟩ := own_shape2 ho.out
      subst hlv
      by_cases hid0 : id = 0
      · have HI := Lib.hid hid0
        have e0 : ((id : Int) == 0) = true := by simp [hid0]
        have e1 : (id == 0) = true := by simp [hid0]
        clear hid0
        go_wp2_with fail
        go_ret3
        exact Post20.no (Or.inl HI.out) ⟨rfl, hw.out⟩
      · have e0 : ((id : Int) == 0) = false := beq_eq_false_iff_ne.mpr (by omega)
        have e1 : (id == 0) = false := beq_eq_false_iff_ne.mpr hid0
        have hid1 : 0 < id := by omega
        clear hid0
        by_cases hf0 : fs.length = 0
        · have HF0 : Hid (fs = []) := Lib.hid (List.eq_nil_of_length_eq_zero hf0)
          have e2 : ((fs.length : Int) == 0) = true := by simp [hf0]
          have e3 : (fs.length == 0) = true := by simp [hf0]
          clear hf0
          go_wp2_with fail
          go_ret3
          exact Post20.no (Or.inr (Or.inr (by rw [HRr.out, HF0.out]))) ⟨rfl, hw.out⟩
        · have hf1 : 0 < fs.length := by omega
          have e2 : ((fs.length : Int) == 0) = false := beq_eq_false_iff_ne.mpr (by omega)
          have e3 : (fs.length == 0) = false := beq_eq_false_iff_ne.mpr (by omega)
          clear hf0
          go_wp2_with fail
          go_ret3
          exact Post20.yes HRr.out hf1 hid1 ⟨⟨_, rfl, ho.out⟩, hw.out⟩
    | cut _ h1 h2 =>
      have hlt : decide ((p : Int) < (s.size : Int)) = true := decide_eq_true (by omega)
      have HRr : Hid (R = none) := Lib.hid (by rw [hRr]; rfl)
      clear hRr
      rcases h2 with h2 | ⟨h2, h3⟩
      · go_wp2_with fail
        refine (mqttText_short s p (by omega) h2 _).mono ?_
        rintro e w2 ⟨rfl, hb2⟩
        have W2 : Hid (Below w.heap.size w w2) := hw.out.trans (hb2.mono hw.out.size)
        clear hb2
        go_wp2_with fail
        go_ret3
        exact Post20.no (Or.inr (Or.inl HRr.out)) ⟨rfl, W2.out⟩
      · go_wp2_with fail
        refine (mqttText_long s p (by omega) h2 h3 _).mono ?_
        rintro e w2 ⟨rfl, hb2⟩
        have W2 : Hid (Below w.heap.size w w2) := hw.out.trans (hb2.mono hw.out.size)
        clear hb2
        go_wp2_with fail
        go_ret3
        exact Post20.no (Or.inr (Or.inl HRr.out)) ⟨rfl, W2.out⟩
    | noq _ h => cases h
    | badq _ h => cases h
    | qos _ _ h => cases h
    | plain _ r _ ht hn =>
      have hlt : decide ((p : Int) < (s.size : Int)) = true := decide_eq_true (by obtain ⟨t1, t2, t3⟩ := ht; omega)
      have en := extract_nil s (p + 2) (p + 2 + tlen s p) ht.2.1
      rw [decide_eq_false (by have := ht.1; omega)] at en
      obtain ⟨t1, t2, t3⟩ := ht
      clear t3
      obtain ⟨n, hN⟩ : ∃ n, tlen s p = n := ⟨_, rfl⟩
      rw [hN] at t1 t2 hn hRr en
      have hn65 : n ≤ 65535 := by have := tlen_lt s p; omega
      have HN := Lib.hid hN
      have HNX := Lib.hid hn
      have HRr := Lib.hid hRr
      clear hN hn hRr
      go_wp2_with fail
      refine (mqttText_ok s p (by omega) (by rw [HN.out]; exact t2) _).mono ?_
      rw [HN.out]
      rintro e w2 ⟨rfl, hb2⟩
      have W2 : Hid (Below w.heap.size w w2) := hw.out.trans (hb2.mono hw.out.size)
      have O2 : Hid (w2.ownsRow w.heap.size 44 2 lv fs.length (cellsI s fs)) := World.ownsRow.kept (row := none) ho.out ⟨hb2.os, hb2.tape, hb2.output, hb2.size, fun i hi _ => hb2.block i hi⟩ (by cases hq : lv.ownBlock <;> simp)
      have Z2 : w.heap.size ≤ w2.heap.size := Nat.le_trans hw.out.size hb2.size
      clear hb2 ho hw
      have pc : ((p + 2 + n : Nat) : Int) = (p : Int) + 2 + (n : Int) := by omega
      generalize htp : s.extract (p + 2) (p + 2 + n) = tp at en
      have HTP := Lib.hid htp
      clear htp
      have nw1 := Lib.hid (show ((w2.alloc (.cells #[.string tp, .int .u8 0] 44)).alloc (.cells #[.string tp, .int .u8 0] 44)).heap[w2.heap.size + 1]? = some (.cells #[.string tp, .int .u8 0] 44) by have := heap_alloc_new (w2.alloc (.cells #[.string tp, .int .u8 0] 44)) (.cells #[.string tp, .int .u8 0] 44); simpa using this)
      have WA : Hid (Below w.heap.size w ((w2.alloc (.cells #[.string tp, .int .u8 0] 44)).alloc (.cells #[.string tp, .int .u8 0] 44))) := (W2.out.alloc Z2 _).alloc (by simp; omega) _
      go_wp2_with (at_builtin; refine wpList_append_lies _ rfl (.tmp 59) (.tmp 61) 40 rfl w.heap.size 44 i0 _ 2 24 Tryd.underlying40 hi0' hz0 hz1 hz2 rfl (by omega) lv fs.length (cellsI s fs) rfl ((O2.out.alloc _).alloc _) ⟨w2.heap.size + 1, 0, none⟩ 1 1 [.string tp, .int .u8 0] rfl rfl (World.news_of_block (cs := #[.string tp, .int .u8 0]) (t := 44) (fr := (0, 0)) nw1.out) (by simp [Value.oneCell']) (by omega) (by unfold maxLen; omega) (by omega) (by simp; omega) (w2.heap.size + 2) (by simp) ?_)
      intro gg gcap w4 hown hgrow hat hlt4
      have W4 : Hid (Below w.heap.size w w4) := WA.out.trans (grown_belowO hgrow (fun k e => (World.ownsRow.lt O2.out _ e).1) (by simp; omega))
      have O4 := Lib.hid hown
      clear hown hgrow hat nw1 WA
      go_wp2_with fail
      go_roundg (s.size - (p + 2 + n))
      case measure => omega
      case rel =>
        refine ⟨_, (p + 2 + n), fs ++ [(p + 2, n, 0)], rfl, rfl, by simp, by omega, by omega, by simp; omega, ?_, W4, ⟨r, HNX.out, ?_⟩⟩
        · refine Lib.hid ?_
          have := O4.out
          have e2 : topicS s (p + 2, n, 0) = tp := HTP.out
          simpa [cellsI, e2] using this
        · rw [HRr.out]
          cases r <;> simp

set_option maxHeartbeats 2000000 in
theorem Spec_short (s : ByteArray) (sub : Bool) (h : s.size < 2) (w : World) : Calls Tryd.prog 19 #[.string s, .bool sub] w (Bad20 w) := by
  have hlt : decide ((s.size : Int) < 2) = true := decide_eq_true (by omega)
  go_enter Tryd.func19, Tryd.ntmps19
  go_wp2_with fail
  go_ret3
  exact ⟨rfl, Below.refl _ _⟩

theorem Spec19 (s : ByteArray) (sub : Bool) (hs : s.size ≤ 1000000) (o : Option (Nat × List (Nat × Nat × Nat))) (ho : Told s sub o) (hS : 2 ≤ s.size → ∃ R, Scan s sub 2 R) (w : World) :
    Calls Tryd.prog 19 #[.string s, .bool sub] w (Post20 s o w) := by
  have key : ∀ R, Scan s sub 2 R → 2 ≤ s.size → Calls Tryd.prog 19 #[.string s, .bool sub] w (Post20 s (toldO (tlen s 0) R) w) := by
    intro R hR h2
    cases sub with
    | true => exact Spec_any s R hs h2 hR w
    | false => exact SpecU_any s R hs h2 hR w
  rcases ho with ⟨a, rfl⟩ | ⟨a, h0, rfl⟩ | ⟨a, h0, R, hR, rfl⟩
  · exact Spec_short s sub a w
  · obtain ⟨R, hR⟩ := hS a
    have := key R hR a
    simpa [toldO, h0] using this
  · have := key R hR a
    unfold toldO at this
    rw [if_neg (by omega)] at this
    exact this
end Go.Proofs.YtpalhclllhbmkaaDoor
