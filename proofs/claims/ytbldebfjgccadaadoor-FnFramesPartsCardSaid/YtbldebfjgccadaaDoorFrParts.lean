/- The walk of FnFramesParts. -/
import Derived.Test.YtbldebfjgccadaaDoorFrZO
namespace Go.Proofs.YtbldebfjgccadaaDoor
open Go.RowKit Go.Proofs.YtbldebfjgccadaaDoorW.PrintWords
open PFnFramesCuts (laws_pieces.f laws_pieces.calls laws_joined.f laws_joined.calls)
attribute [local go_sem ↓] Go.wp_at_zero Go.wp_at_succ
set_option linter.unusedVariables false
set_option linter.unusedSimpArgs false
set_option maxHeartbeats 8000000
set_option maxRecDepth 100000

theorem wrs_append : ∀ a b : List Frm.Fr, Frm.wrs (a ++ b) = Frm.wrs a ++ Frm.wrs b
  | [], b => rfl
  | f :: a, b => by rw [List.cons_append, Frm.wrs, Frm.wrs, wrs_append a b, List.append_assoc]
/-- The mask of a part. -/
def partMask (m : Int) (i : Nat) : Int := (m + (i : Int)) % 4294967296
def partOp (i : Nat) : Nat := if i = 0 then 2 else 0
/-- A part, written: and the ping behind it. -/
def partFr (l : List ByteArray) (m : Int) (ping : Bool) (i : Nat) : List Frm.Fr :=
  ⟨partOp i, decide (i + 1 = l.length), maskN (partMask m i), natsOf (l.getD i ByteArray.empty)⟩ :: (if ping = true ∧ i + 1 < l.length then [⟨9, true, maskN m, [120]⟩] else [])
def partsFr (l : List ByteArray) (m : Int) (ping : Bool) (i d : Nat) : List Frm.Fr := (List.range' i d).flatMap (partFr l m ping)
theorem parts_right (l : List ByteArray) (m : Int) (ping : Bool) (hs : ∀ s ∈ l, s.size ≤ 400) (d : Nat) : ∀ i, l.length - i = d → i ≤ l.length → (i < l.length ∨ l = [] ∨ True) →
    Frm.Right vld (decide (i = 0 ∨ i = l.length)) (partsFr l m ping i d) ((l.drop i).map natsOf).flatten 0 := by
  induction d with
  | zero =>
    intro i h1 h2 _
    rw [List.drop_of_length_le (by omega)]
    exact Frm.Right.none _
  | succ d ih =>
    intro i h1 h2 _
    have hi : i < l.length := by omega
    have hd : l.drop i = l[i] :: l.drop (i + 1) := List.drop_eq_getElem_cons hi
    have hg : l.getD i ByteArray.empty = l[i] := by simp [List.getD, hi]
    have hsz := hs l[i] (List.getElem_mem hi)
    have hnl : (natsOf l[i]).length = l[i].size := natsOf_length _
    rw [hd, List.map_cons, List.flatten_cons]
    unfold partsFr
    rw [List.range'_succ, List.flatMap_cons]
    unfold partFr
    rw [hg]
    have hrest := ih (i + 1) (by omega) (by omega) (Or.inr (Or.inr trivial))
    have e2 : decide (i + 1 = 0 ∨ i + 1 = l.length) = decide (i + 1 = l.length) := by
      by_cases h : i + 1 = l.length
      · rw [decide_eq_true h, decide_eq_true (Or.inr h)]
      · rw [decide_eq_false h, decide_eq_false (by omega)]
    rw [e2] at hrest
    have hff : decide (i = 0 ∨ i = l.length) = decide (i = 0) := by
      by_cases h : i = 0
      · rw [decide_eq_true h, decide_eq_true (Or.inl h)]
      · rw [decide_eq_false h, decide_eq_false (by omega)]
    rw [hff]
    have hm : Frm.mayBe (partOp i) (decide (i = 0)) (decide (i + 1 = l.length)) (if (natsOf l[i]).length < 126 then (natsOf l[i]).length else 126) = some (decide (i + 1 = l.length)) := by
      unfold partOp
      by_cases h : i = 0
      · rw [if_pos h, decide_eq_true h]; rfl
      · rw [if_neg h, decide_eq_false h]; rfl
    refine Frm.Right.data _ _ _ _ _ 0 (by show partOp i < 8; unfold partOp; split <;> omega) rfl (by show (natsOf l[i]).length < 65536; omega) hm ?_
    by_cases hp : ping = true ∧ i + 1 < l.length
    · rw [if_pos hp]
      exact Frm.Right.ctrl _ _ _ _ 0 (Or.inl rfl) rfl (by show ([120] : List Nat).length ≤ 125; decide) rfl hrest
    · rw [if_neg hp]
      exact hrest
theorem wr_len (op : Nat) (fin : Bool) (m : Int) (data : List Nat) : (Frm.wr op fin (maskN m) data).length ≤ data.length + 8 := by
  have hl : (Frm.lens data.length).length ≤ 3 := by unfold Frm.lens; split <;> simp
  unfold Frm.wr
  rw [List.length_cons, List.length_append, List.length_append, Frm.unmask_length]
  have h4 : (maskN m).length = 4 := rfl
  omega
theorem parts_len (l : List ByteArray) (m : Int) (ping : Bool) (d : Nat) : ∀ i, l.length - i = d → i ≤ l.length → (Frm.wrs (partsFr l m ping i d)).length ≤ ((l.drop i).map natsOf).flatten.length + 40 * d := by
  induction d with
  | zero => intro i _ _; simp [partsFr, Frm.wrs]
  | succ d ih =>
    intro i h1 h2
    have hi : i < l.length := by omega
    have hd : l.drop i = l[i] :: l.drop (i + 1) := List.drop_eq_getElem_cons hi
    have hg : l.getD i ByteArray.empty = l[i] := by simp [List.getD, hi]
    have hrest := ih (i + 1) (by omega) (by omega)
    have a1 := wr_len (partOp i) (decide (i + 1 = l.length)) (partMask m i) (natsOf l[i])
    have a2 := wr_len 9 true m [120]
    have a3 : ([120] : List Nat).length = 1 := rfl
    rw [hd, List.map_cons, List.flatten_cons, List.length_append]
    unfold partsFr at hrest ⊢
    rw [List.range'_succ, List.flatMap_cons, wrs_append, List.length_append]
    unfold partFr at hrest ⊢
    rw [hg]
    by_cases hp : ping = true ∧ i + 1 < l.length
    · rw [if_pos hp]
      simp only [Frm.wrs, Frm.Fr.w, List.length_append, List.length_nil] at hrest ⊢
      omega
    · rw [if_neg hp]
      simp only [Frm.wrs, Frm.Fr.w, List.length_append, List.length_nil] at hrest ⊢
      omega
theorem written_call (op : Int) (fin : Bool) (m : Int) (s : ByteArray) (hs : s.size < 65536) (w : World) : Calls Tryd.prog 14 #[.agg #[.int .u8 op, .bool fin, .int .u32 m, .string s]] w fun e w' => e = .returned (.string (strOfNums (writtenI op fin m s))) ∧ Below w.heap.size w w' := by
  obtain ⟨k, hk⟩ := (written_ends op fin m s hs).rounds
  exact PXF.spec_Frame_Written.calls k op fin m s _ w hk
theorem parts_snoc (l : List ByteArray) (m : Int) (ping : Bool) (k : Nat) : partsFr l m ping 0 (k + 1) = partsFr l m ping 0 k ++ partFr l m ping k := by
  unfold partsFr
  rw [List.range'_1_concat, List.flatMap_append]
  simp
theorem parts_step (l : List ByteArray) (m : Int) (ping : Bool) (k : Nat) (op : Int) (fin : Bool) (x s : ByteArray) (hk : k < l.length) (hx : l[k] = x) (hf : decide (k + 1 = l.length) = fin) (ho : ((partOp k : Nat) : Int) = op) (hxs : x.size < 65536) (hN : natsOf s = Frm.wrs (partsFr l m ping 0 k)) :
    (¬ (ping = true ∧ k + 1 < l.length) → natsOf (s ++ strOfNums (writtenI op fin ((m + (k : Int)) % 4294967296) x)) = Frm.wrs (partsFr l m ping 0 (k + 1)) ∧ (s ++ strOfNums (writtenI op fin ((m + (k : Int)) % 4294967296) x)).size ≤ s.size + x.size + 8) ∧
    (ping = true ∧ k + 1 < l.length → natsOf (s ++ strOfNums (writtenI op fin ((m + (k : Int)) % 4294967296) x) ++ strOfNums (writtenI 9 true m ⟨#[120]⟩)) = Frm.wrs (partsFr l m ping 0 (k + 1)) ∧ (s ++ strOfNums (writtenI op fin ((m + (k : Int)) % 4294967296) x) ++ strOfNums (writtenI 9 true m ⟨#[120]⟩)).size ≤ s.size + x.size + 17) := by
  subst ho
  have hop : partOp k < 16 := by unfold partOp; split <;> omega
  have h1 := writtenI_wr (partOp k) fin ((m + (k : Int)) % 4294967296) x hop hxs
  have h2 := writtenI_wr 9 true m ⟨#[120]⟩ (by decide) (by decide)
  have s1 := written_size (partOp k : Int) fin ((m + (k : Int)) % 4294967296) x
  have s2 := written_size 9 true m ⟨#[120]⟩
  have s3 : (⟨#[120]⟩ : ByteArray).size = 1 := rfl
  have hg : l.getD k ByteArray.empty = x := by simp [List.getD, hk, hx]
  have hn : natsOf (⟨#[120]⟩ : ByteArray) = [120] := rfl
  have h2' : natsOf (strOfNums (writtenI 9 true m ⟨#[120]⟩)) = Frm.wr 9 true (maskN m) [120] := h2
  refine ⟨fun hp => ⟨?_, by rw [ByteArray.size_append]; omega⟩, fun hp => ⟨?_, by rw [ByteArray.size_append, ByteArray.size_append]; omega⟩⟩
  · rw [parts_snoc, wrs_append, natsOf_append, hN, h1]
    unfold partFr partMask
    rw [if_neg hp, hg, hf]
    simp [Frm.wrs, Frm.Fr.w]
  · rw [parts_snoc, wrs_append, natsOf_append, natsOf_append, hN, h1, h2']
    unfold partFr partMask
    rw [if_pos hp, hg, hf]
    simp [Frm.wrs, Frm.Fr.w]
theorem made_below {w w2 w3 : World} {o : Obj} (e : w2 = w.alloc o) (h : Below w2.heap.size w2 w3) : Below w.heap.size w w3 := by
  subst e
  exact ((Below.refl w.heap.size w).alloc (Nat.le_refl _) o).trans (h.mono (by simp))
theorem parts_law (data : ByteArray) (A : Option Addr) (c : Nat) (cuts : List Int) (m : Int) (ping : Bool) (w : World) (qe : Addr) (hr : Kd.C (Kd.int .i64) w A cuts.length cuts) (hc : cuts.length ≤ c) (hS : Sur qe w) :
    Calls Tryd.prog 5 #[.string data, .slice A cuts.length c, .int .u32 m, .bool ping] w fun e w' => e = .returned (.bool true) ∧ Below w.heap.size w w' := by
  have HS := Lib.hid hS
  have HC := Lib.hid hr
  have HL := Lib.hid hc
  clear hS hr hc
  by_cases c1 : 2147483647 < (data.size : Int)
  · have d1 : decide ((data.size : Int) > 2147483647) = true := decide_eq_true c1
    clear c1
    go_enter Tryd.func5, Tryd.ntmps5
    go_wp2_with fail
    go_ret
    exact ⟨rfl, Below.refl _ _⟩
  have d1 : decide ((data.size : Int) > 2147483647) = false := decide_eq_false c1
  by_cases c2 : 2147483647 < (cuts.length : Int)
  · have d2 : decide ((cuts.length : Int) > 2147483647) = true := decide_eq_true c2
    clear c1 c2
    go_enter Tryd.func5, Tryd.ntmps5
    go_wp2_with fail
    go_ret
    exact ⟨rfl, Below.refl _ _⟩
  have d2 : decide ((cuts.length : Int) > 2147483647) = false := decide_eq_false c2
  by_cases c3 : 400 < (data.size : Int)
  · have d3 : decide ((data.size : Int) > 400) = true := decide_eq_true c3
    clear c1 c2 c3
    go_enter Tryd.func5, Tryd.ntmps5
    go_wp2_with fail
    refine (awake_any w qe HS.out).mono ?_
    rintro e w1 ⟨rfl, hb⟩
    have HB := Lib.hid hb
    clear hb
    go_wp2_with fail
    go_ret
    exact ⟨rfl, HB.out⟩
  have d3 : decide ((data.size : Int) > 400) = false := decide_eq_false c3
  by_cases c4 : 6 < (cuts.length : Int)
  · have d4 : decide ((cuts.length : Int) > 6) = true := decide_eq_true c4
    clear c1 c2 c3 c4
    go_enter Tryd.func5, Tryd.ntmps5
    go_wp2_with fail
    refine (awake_any w qe HS.out).mono ?_
    rintro e w1 ⟨rfl, hb⟩
    have HB := Lib.hid hb
    clear hb
    go_wp2_with fail
    go_ret
    exact ⟨rfl, HB.out⟩
  have d4 : decide ((cuts.length : Int) > 6) = false := decide_eq_false c4
  have hs4 : Hid (data.size ≤ 400) := Lib.hid (by omega)
  have hc6 : Hid (cuts.length ≤ 6) := Lib.hid (by omega)
  clear c1 c2 c3 c4
  obtain ⟨kp, l, hkp, hrf, hr0, hr14⟩ := pieces_done data cuts (by have := hs4.out; omega) (by have := hc6.out; omega)
  have HP := Lib.hid (laws_pieces.calls kp data A c cuts l w HC.out HL.out hkp)
  have HRF := Lib.hid hrf
  have HR0 := Lib.hid hr0
  have HR14 := Lib.hid hr14
  clear hkp hrf hr0 hr14
  go_enter Tryd.func5, Tryd.ntmps5
  go_wp2_with fail
  refine HP.out.mono ?_
  rintro e w1 ⟨v2, rfl, hR, hb1⟩
  obtain ⟨ad, k2, rfl, hcells⟩ := strs_cells hR HR0.out
  have HB1 := Lib.hid hb1
  have HCE := Lib.hid hcells
  clear hR hb1 hcells HP
  go_wp2_with fail
  go_loopg [10, 11] l.length (fun gk v10 v11 w' => ∃ (s : ByteArray) (k : Nat), v10 = .string s ∧ v11 = .int .i64 k ∧ gk + k = l.length ∧ Hid (natsOf s = Frm.wrs (partsFr l m ping 0 k)) ∧ Hid (s.size ≤ 900 * k) ∧ Hid (Below w1.heap.size w1 w'))
  case atStart => exact ⟨ByteArray.empty, 0, rfl, rfl, by omega, Lib.hid rfl, Lib.hid (by decide), Lib.hid (Below.refl _ _)⟩
  case round =>
    obtain ⟨s, k, rfl, rfl, hgk, HN, HZ, HW⟩ := hrel
    by_cases hlt : k < l.length
    · have t1 : decide ((k : Int) < (l.length : Int)) = true := decide_eq_true (by omega)
      have t2 : decide (k < l.length) = true := decide_eq_true hlt
      obtain ⟨x, hx⟩ : ∃ x, l[k] = x := ⟨_, rfl⟩
      have hcell : wr.cell? (ad.add k) = some (.string x) := by
        have h0 := HCE.out k hlt
        rw [hx] at h0
        exact pw_cell_below HW.out h0
      have hw1 : wrap64 ((k : Int) + 1) = ((k + 1 : Nat) : Int) := wrap_succ' k (by have := HR14.out; omega)
      have HX := Lib.hid hx
      clear hx
      have hxs : Hid (x.size ≤ 400) := Lib.hid (by
        have h0 : (natsOf l[k]).length ≤ (l.map natsOf).flatten.length := (List.sublist_flatten_of_mem (List.mem_map_of_mem (List.getElem_mem hlt))).length_le
        rw [HX.out, HRF.out, natsOf_length, natsOf_length] at h0
        have := hs4.out
        omega)
      have hk14 : Hid (k < 14) := Lib.hid (by have := HR14.out; omega)
      -- CASES (printed by wip/gen/parts.py)
      rcases hF : decide (k + 1 = l.length) with _ | _
      · have hF' := of_decide_eq_false hF
        have f1 : ((k : Int) + 1 == (l.length : Int)) = false := by simp; omega
        have f2 : decide ((k : Int) + 1 < (l.length : Int)) = true := decide_eq_true (by omega)
        have HF : Hid (decide (k + 1 = l.length) = false) := Lib.hid hF
        have HL2 : Hid (k + 1 < l.length) := Lib.hid (by omega)
        clear hF hF'
        rcases hZ : decide (k = 0) with _ | _
        · have hZ' := of_decide_eq_false hZ
          have f3 : ((k : Int) == 0) = false := by simp; omega
          have HOP : Hid (((partOp k : Nat) : Int) = 0) := Lib.hid (by unfold partOp; rw [if_neg hZ']; rfl)
          clear hZ hZ'
          have HST := Lib.hid (parts_step l m ping k 0 false x s hlt HX.out HF.out HOP.out (by have := hxs.out; omega) HN.out)
          cases ping with
          | false =>
            go_wp2_with fail
            refine (written_call 0 false ((m + (k : Int)) % 4294967296) x (by have := hxs.out; omega) _).mono ?_
            rintro e w3 ⟨rfl, hb3⟩
            have hW3 : Below w1.heap.size w1 w3 := HW.out.trans ((made_below rfl hb3).mono HW.out.size)
            have hsz : s.size + (strOfNums (writtenI 0 false ((m + (k : Int)) % 4294967296) x)).size ≤ 9223372036854775807 := by
              have h0 := written_size 0 false ((m + (k : Int)) % 4294967296) x
              have h1 := HZ.out
              have h2 := hxs.out
              have h3 := hk14.out
              omega
            have HW3 := Lib.hid hW3
            clear hb3 hW3
            go_wp2_with fail
            go_roundg (gk - 1)
            case measure => omega
            case rel => exact ⟨_, k + 1, rfl, by rw [hw1], by omega, Lib.hid (HST.out.1 (by intro h; cases h.1)).1, Lib.hid (by have h1 := HZ.out; have h2 := hxs.out; have h3 := (HST.out.1 (by intro h; cases h.1)).2; omega), HW3⟩
          | true =>
            go_wp2_with fail
            refine (written_call 0 false ((m + (k : Int)) % 4294967296) x (by have := hxs.out; omega) _).mono ?_
            rintro e w3 ⟨rfl, hb3⟩
            have hW3 : Below w1.heap.size w1 w3 := HW.out.trans ((made_below rfl hb3).mono HW.out.size)
            have hsz : s.size + (strOfNums (writtenI 0 false ((m + (k : Int)) % 4294967296) x)).size ≤ 9223372036854775807 := by
              have h0 := written_size 0 false ((m + (k : Int)) % 4294967296) x
              have h1 := HZ.out
              have h2 := hxs.out
              have h3 := hk14.out
              omega
            have HW3 := Lib.hid hW3
            clear hb3 hW3
            go_wp2_with fail
            refine (written_call 9 true m ⟨#[120]⟩ (by decide) _).mono ?_
            rintro e w4 ⟨rfl, hb4⟩
            have HW4 := Lib.hid (HW3.out.trans (hb4.mono HW3.out.size))
            have hsz2 : (s ++ strOfNums (writtenI 0 false ((m + (k : Int)) % 4294967296) x)).size + (strOfNums (writtenI 9 true m ⟨#[120]⟩)).size ≤ 9223372036854775807 := by
              have h0 := written_size 0 false ((m + (k : Int)) % 4294967296) x
              have h01 := written_size 9 true m ⟨#[120]⟩
              have h02 : (⟨#[120]⟩ : ByteArray).size = 1 := rfl
              have h1 := HZ.out
              have h2 := hxs.out
              have h3 := hk14.out
              rw [ByteArray.size_append]
              omega
            clear hb4
            go_wp2_with fail
            go_roundg (gk - 1)
            case measure => omega
            case rel => exact ⟨_, k + 1, rfl, by rw [hw1], by omega, Lib.hid (HST.out.2 ⟨by trivial, HL2.out⟩).1, Lib.hid (by have h1 := HZ.out; have h2 := hxs.out; have h3 := (HST.out.2 ⟨by trivial, HL2.out⟩).2; omega), HW4⟩
        · have hZ' := of_decide_eq_true hZ
          have f3 : ((k : Int) == 0) = true := by simp; omega
          have HOP : Hid (((partOp k : Nat) : Int) = 2) := Lib.hid (by unfold partOp; rw [if_pos hZ']; rfl)
          clear hZ hZ'
          have HST := Lib.hid (parts_step l m ping k 2 false x s hlt HX.out HF.out HOP.out (by have := hxs.out; omega) HN.out)
          cases ping with
          | false =>
            go_wp2_with fail
            refine (written_call 2 false ((m + (k : Int)) % 4294967296) x (by have := hxs.out; omega) _).mono ?_
            rintro e w3 ⟨rfl, hb3⟩
            have hW3 : Below w1.heap.size w1 w3 := HW.out.trans ((made_below rfl hb3).mono HW.out.size)
            have hsz : s.size + (strOfNums (writtenI 2 false ((m + (k : Int)) % 4294967296) x)).size ≤ 9223372036854775807 := by
              have h0 := written_size 2 false ((m + (k : Int)) % 4294967296) x
              have h1 := HZ.out
              have h2 := hxs.out
              have h3 := hk14.out
              omega
            have HW3 := Lib.hid hW3
            clear hb3 hW3
            go_wp2_with fail
            go_roundg (gk - 1)
            case measure => omega
            case rel => exact ⟨_, k + 1, rfl, by rw [hw1], by omega, Lib.hid (HST.out.1 (by intro h; cases h.1)).1, Lib.hid (by have h1 := HZ.out; have h2 := hxs.out; have h3 := (HST.out.1 (by intro h; cases h.1)).2; omega), HW3⟩
          | true =>
            go_wp2_with fail
            refine (written_call 2 false ((m + (k : Int)) % 4294967296) x (by have := hxs.out; omega) _).mono ?_
            rintro e w3 ⟨rfl, hb3⟩
            have hW3 : Below w1.heap.size w1 w3 := HW.out.trans ((made_below rfl hb3).mono HW.out.size)
            have hsz : s.size + (strOfNums (writtenI 2 false ((m + (k : Int)) % 4294967296) x)).size ≤ 9223372036854775807 := by
              have h0 := written_size 2 false ((m + (k : Int)) % 4294967296) x
              have h1 := HZ.out
              have h2 := hxs.out
              have h3 := hk14.out
              omega
            have HW3 := Lib.hid hW3
            clear hb3 hW3
            go_wp2_with fail
            refine (written_call 9 true m ⟨#[120]⟩ (by decide) _).mono ?_
            rintro e w4 ⟨rfl, hb4⟩
            have HW4 := Lib.hid (HW3.out.trans (hb4.mono HW3.out.size))
            have hsz2 : (s ++ strOfNums (writtenI 2 false ((m + (k : Int)) % 4294967296) x)).size + (strOfNums (writtenI 9 true m ⟨#[120]⟩)).size ≤ 9223372036854775807 := by
              have h0 := written_size 2 false ((m + (k : Int)) % 4294967296) x
              have h01 := written_size 9 true m ⟨#[120]⟩
              have h02 : (⟨#[120]⟩ : ByteArray).size = 1 := rfl
              have h1 := HZ.out
              have h2 := hxs.out
              have h3 := hk14.out
              rw [ByteArray.size_append]
              omega
            clear hb4
            go_wp2_with fail
            go_roundg (gk - 1)
            case measure => omega
            case rel => exact ⟨_, k + 1, rfl, by rw [hw1], by omega, Lib.hid (HST.out.2 ⟨by trivial, HL2.out⟩).1, Lib.hid (by have h1 := HZ.out; have h2 := hxs.out; have h3 := (HST.out.2 ⟨by trivial, HL2.out⟩).2; omega), HW4⟩
      · have hF' := of_decide_eq_true hF
        have f1 : ((k : Int) + 1 == (l.length : Int)) = true := by simp; omega
        have f2 : decide ((k : Int) + 1 < (l.length : Int)) = false := decide_eq_false (by omega)
        have HF : Hid (decide (k + 1 = l.length) = true) := Lib.hid hF
        have HL2 : Hid (¬ k + 1 < l.length) := Lib.hid (by omega)
        clear hF hF'
        rcases hZ : decide (k = 0) with _ | _
        · have hZ' := of_decide_eq_false hZ
          have f3 : ((k : Int) == 0) = false := by simp; omega
          have HOP : Hid (((partOp k : Nat) : Int) = 0) := Lib.hid (by unfold partOp; rw [if_neg hZ']; rfl)
          clear hZ hZ'
          have HST := Lib.hid (parts_step l m ping k 0 true x s hlt HX.out HF.out HOP.out (by have := hxs.out; omega) HN.out)
          cases ping with
          | false =>
            go_wp2_with fail
            refine (written_call 0 true ((m + (k : Int)) % 4294967296) x (by have := hxs.out; omega) _).mono ?_
            rintro e w3 ⟨rfl, hb3⟩
            have hW3 : Below w1.heap.size w1 w3 := HW.out.trans ((made_below rfl hb3).mono HW.out.size)
            have hsz : s.size + (strOfNums (writtenI 0 true ((m + (k : Int)) % 4294967296) x)).size ≤ 9223372036854775807 := by
              have h0 := written_size 0 true ((m + (k : Int)) % 4294967296) x
              have h1 := HZ.out
              have h2 := hxs.out
              have h3 := hk14.out
              omega
            have HW3 := Lib.hid hW3
            clear hb3 hW3
            go_wp2_with fail
            go_roundg (gk - 1)
            case measure => omega
            case rel => exact ⟨_, k + 1, rfl, by rw [hw1], by omega, Lib.hid (HST.out.1 (by intro h; exact HL2.out h.2)).1, Lib.hid (by have h1 := HZ.out; have h2 := hxs.out; have h3 := (HST.out.1 (by intro h; exact HL2.out h.2)).2; omega), HW3⟩
          | true =>
            go_wp2_with fail
            refine (written_call 0 true ((m + (k : Int)) % 4294967296) x (by have := hxs.out; omega) _).mono ?_
            rintro e w3 ⟨rfl, hb3⟩
            have hW3 : Below w1.heap.size w1 w3 := HW.out.trans ((made_below rfl hb3).mono HW.out.size)
            have hsz : s.size + (strOfNums (writtenI 0 true ((m + (k : Int)) % 4294967296) x)).size ≤ 9223372036854775807 := by
              have h0 := written_size 0 true ((m + (k : Int)) % 4294967296) x
              have h1 := HZ.out
              have h2 := hxs.out
              have h3 := hk14.out
              omega
            have HW3 := Lib.hid hW3
            clear hb3 hW3
            go_wp2_with fail
            go_roundg (gk - 1)
            case measure => omega
            case rel => exact ⟨_, k + 1, rfl, by rw [hw1], by omega, Lib.hid (HST.out.1 (by intro h; exact HL2.out h.2)).1, Lib.hid (by have h1 := HZ.out; have h2 := hxs.out; have h3 := (HST.out.1 (by intro h; exact HL2.out h.2)).2; omega), HW3⟩
        · have hZ' := of_decide_eq_true hZ
          have f3 : ((k : Int) == 0) = true := by simp; omega
          have HOP : Hid (((partOp k : Nat) : Int) = 2) := Lib.hid (by unfold partOp; rw [if_pos hZ']; rfl)
          clear hZ hZ'
          have HST := Lib.hid (parts_step l m ping k 2 true x s hlt HX.out HF.out HOP.out (by have := hxs.out; omega) HN.out)
          cases ping with
          | false =>
            go_wp2_with fail
            refine (written_call 2 true ((m + (k : Int)) % 4294967296) x (by have := hxs.out; omega) _).mono ?_
            rintro e w3 ⟨rfl, hb3⟩
            have hW3 : Below w1.heap.size w1 w3 := HW.out.trans ((made_below rfl hb3).mono HW.out.size)
            have hsz : s.size + (strOfNums (writtenI 2 true ((m + (k : Int)) % 4294967296) x)).size ≤ 9223372036854775807 := by
              have h0 := written_size 2 true ((m + (k : Int)) % 4294967296) x
              have h1 := HZ.out
              have h2 := hxs.out
              have h3 := hk14.out
              omega
            have HW3 := Lib.hid hW3
            clear hb3 hW3
            go_wp2_with fail
            go_roundg (gk - 1)
            case measure => omega
            case rel => exact ⟨_, k + 1, rfl, by rw [hw1], by omega, Lib.hid (HST.out.1 (by intro h; exact HL2.out h.2)).1, Lib.hid (by have h1 := HZ.out; have h2 := hxs.out; have h3 := (HST.out.1 (by intro h; exact HL2.out h.2)).2; omega), HW3⟩
          | true =>
            go_wp2_with fail
            refine (written_call 2 true ((m + (k : Int)) % 4294967296) x (by have := hxs.out; omega) _).mono ?_
            rintro e w3 ⟨rfl, hb3⟩
            have hW3 : Below w1.heap.size w1 w3 := HW.out.trans ((made_below rfl hb3).mono HW.out.size)
            have hsz : s.size + (strOfNums (writtenI 2 true ((m + (k : Int)) % 4294967296) x)).size ≤ 9223372036854775807 := by
              have h0 := written_size 2 true ((m + (k : Int)) % 4294967296) x
              have h1 := HZ.out
              have h2 := hxs.out
              have h3 := hk14.out
              omega
            have HW3 := Lib.hid hW3
            clear hb3 hW3
            go_wp2_with fail
            go_roundg (gk - 1)
            case measure => omega
            case rel => exact ⟨_, k + 1, rfl, by rw [hw1], by omega, Lib.hid (HST.out.1 (by intro h; exact HL2.out h.2)).1, Lib.hid (by have h1 := HZ.out; have h2 := hxs.out; have h3 := (HST.out.1 (by intro h; exact HL2.out h.2)).2; omega), HW3⟩
    · obtain rfl : k = l.length := by omega
      have t1 : decide ((l.length : Int) < (l.length : Int)) = false := decide_eq_false (by omega)
      have t2 : decide (l.length < l.length) = false := decide_eq_false (by omega)
      have hB : Below w.heap.size w wr := HB1.out.trans (HW.out.mono HB1.out.size)
      have HB := Lib.hid hB
      have hall : ∀ t ∈ l, t.size ≤ 400 := fun t ht => by
        have h1 : (natsOf t).length ≤ (l.map natsOf).flatten.length := (List.sublist_flatten_of_mem (List.mem_map_of_mem ht)).length_le
        rw [HRF.out, natsOf_length, natsOf_length] at h1
        have := hs4.out
        omega
      have hright := parts_right l m ping hall l.length 0 (by omega) (by omega) (Or.inr (Or.inr trivial))
      rw [List.drop_zero, HRF.out, decide_eq_true (Or.inl rfl)] at hright
      have HRI := Lib.hid hright
      have hsl : s.size ≤ 1000 := by
        have h1 := parts_len l m ping l.length 0 (by omega) (by omega)
        rw [← HN.out, List.drop_zero, HRF.out, natsOf_length, natsOf_length] at h1
        have := hs4.out
        have := HR14.out
        omega
      have HSL := Lib.hid hsl
      clear hB hall hright hsl HZ
      go_wp2_with fail
      refine (one_any s wr qe (by have := HSL.out; omega) (HS.out.later HB.out) _ rfl).mono ?_
      rintro e w3 ⟨v3, db, st, ok, rfl, ho3, hrun3, hb3⟩
      have hB3 : Below w.heap.size w w3 := HB.out.trans ((made_below rfl hb3).mono HB.out.size)
      have hfl := hrun3.flat
      have e0 : (([s].map natsOf).flatten) = Frm.wrs (partsFr l m ping 0 l.length) := by rw [← HN.out]; simp
      rw [List.nil_append, e0] at hfl
      have h3 := Frm.Flat.det hfl (Frm.flat_wrs vld HRI.out)
      simp only [Prod.mk.injEq] at h3
      obtain ⟨hdat, rfl, rfl⟩ := h3
      obtain ⟨jb, rb, hjb, hrb⟩ := joined_run hrun3 (by simp [natsOf_length]; have := HSL.out; omega)
      obtain rfl : rb = data := natsOf_inj (by rw [hrb, hdat])
      obtain ⟨A3, k3, rfl, hAc3, hC3⟩ := own_strs ho3
      have HJ := Lib.hid (laws_joined.calls jb A3 k3 db rb w3 hC3 hAc3 hjb)
      have HB3 := Lib.hid hB3
      clear hB3 hfl e0 hdat hrb hjb hAc3 hC3 ho3 hrun3 hb3
      go_wp2_with fail
      refine HJ.out.mono ?_
      rintro e w7 ⟨rfl, hd7⟩
      have HB7 := Lib.hid (HB3.out.trans (hd7.below.mono HB3.out.size))
      clear hd7 HJ
      go_wp2_with fail
      refine (awake_any w7 qe (HS.out.later HB7.out)).mono ?_
      rintro e w8 ⟨rfl, hb⟩
      have HB8 := Lib.hid (HB7.out.trans (hb.mono HB7.out.size))
      clear hb
      go_wp2_with fail
      go_ret
      exact ⟨rfl, HB8.out⟩
end Go.Proofs.YtbldebfjgccadaaDoor
