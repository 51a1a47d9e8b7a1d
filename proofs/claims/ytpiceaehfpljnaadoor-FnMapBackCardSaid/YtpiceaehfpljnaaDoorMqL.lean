/- The walk of mapPut. -/
import Derived.Test.YtpiceaehfpljnaaDoorMqJK
import Derived.Test.YtpiceaehfpljnaaDoorWLast
namespace Go.Proofs.YtpiceaehfpljnaaDoor
open Go.RowKit Mp Mpm Go.Proofs.YtpiceaehfpljnaaDoorW.PrintLast
attribute [local go_sem ↓] Go.wp_at_zero Go.wp_at_succ
set_option linter.unusedVariables false
set_option linter.unusedSimpArgs false
set_option maxRecDepth 1000000
set_option maxHeartbeats 8000000

attribute [local go_sem] max2_int min2_int max_two min_two
/-- What a piece makes of the words. -/
def PutP (p : Pc) (ss : List ByteArray) (s : ByteArray) : Prop := s.size ≤ 100 ∧ (p.fn = 0 → s = p.word) ∧ ((p.fn = 1 ∨ p.fn = 2) → ∃ (j : Nat) (h : j < ss.length), p.at_ = (j : Int) + 1 ∧ s = ss[j])
def PutR (p : Pc) (ss : List ByteArray) (w : World) (e : Ending) (w' : World) : Prop := (∃ s b, e = .returned (.tuple #[.string s, .bool b]) ∧ PutP p ss s) ∧ Below w.heap.size w w'
theorem put_weak {p : Pc} {ss : List ByteArray} {s : ByteArray} (h : s.size ≤ 100) (h0 : p.fn ≠ 0) (h1 : p.fn ≠ 1) (h2 : p.fn ≠ 2) : PutP p ss s := ⟨h, fun e => absurd e h0, fun e => (e.elim h1 h2).elim⟩
theorem put0_any (at_ n : Int) (word : ByteArray) (all : List Int) (A C : Option Addr) (c d : Nat) (ss : List ByteArray) (w : World) (hI : IsA w A all) (hC : WsA w C ss) (hR : RightP ss.length ⟨0, at_, n, word, all⟩) (hz : ∀ t ∈ ss, t.size ≤ 20) (hl : ss.length ≤ 8) (ha : all.length ≤ 5) (hw : word.size ≤ 20) : Calls Tryd.prog 28 #[pcV ⟨0, at_, n, word, all⟩ A c, .slice C ss.length d] w fun e w' => PutR ⟨0, at_, n, word, all⟩ ss w e w' := by
  unfold pcV
  have HB : Hid (Below w.heap.size w (w.alloc (.cells #[.int .i64 0, .int .i64 at_, .int .i64 n, .string word, .slice A all.length c] 55))) := Lib.hid ((Below.refl w.heap.size w).alloc (Nat.le_refl _) _)
  have HBOX : Hid (BoxAt w.heap.size (.cells #[.int .i64 0, .int .i64 at_, .int .i64 n, .string word, .slice A all.length c] 55) (w.alloc (.cells #[.int .i64 0, .int .i64 at_, .int .i64 n, .string word, .slice A all.length c] 55))) := Lib.hid (heap_alloc_last w _)
  have HI := Lib.hid hI
  have HC := Lib.hid hC
  have HZ := Lib.hid hz
  clear hI hC hz
  clear hR
  go_enter Tryd.func28, Tryd.ntmps28
  go_wp2_with fail
  go_ret2
  exact ⟨⟨_, _, rfl, ⟨by show word.size ≤ 100; omega, fun _ => rfl, fun h => by rcases h with h | h <;> exact absurd h (by show ¬ ((0 : Int) = _); decide)⟩⟩, HB.out⟩
theorem put1_any (at_ n : Int) (word : ByteArray) (all : List Int) (A C : Option Addr) (c d : Nat) (ss : List ByteArray) (w : World) (hI : IsA w A all) (hC : WsA w C ss) (hR : RightP ss.length ⟨1, at_, n, word, all⟩) (hz : ∀ t ∈ ss, t.size ≤ 20) (hl : ss.length ≤ 8) (ha : all.length ≤ 5) (hw : word.size ≤ 20) : Calls Tryd.prog 28 #[pcV ⟨1, at_, n, word, all⟩ A c, .slice C ss.length d] w fun e w' => PutR ⟨1, at_, n, word, all⟩ ss w e w' := by
  unfold pcV
  have HB : Hid (Below w.heap.size w (w.alloc (.cells #[.int .i64 1, .int .i64 at_, .int .i64 n, .string word, .slice A all.length c] 55))) := Lib.hid ((Below.refl w.heap.size w).alloc (Nat.le_refl _) _)
  have HBOX : Hid (BoxAt w.heap.size (.cells #[.int .i64 1, .int .i64 at_, .int .i64 n, .string word, .slice A all.length c] 55) (w.alloc (.cells #[.int .i64 1, .int .i64 at_, .int .i64 n, .string word, .slice A all.length c] 55))) := Lib.hid (heap_alloc_last w _)
  have HI := Lib.hid hI
  have HC := Lib.hid hC
  have HZ := Lib.hid hz
  clear hI hC hz
  have hr := hR
  simp only [RightP] at hr
  have hat : 1 ≤ at_ ∧ at_ ≤ (ss.length : Int) := by
    rcases hr with h | h | h
    · exact absurd h.1 (by decide)
    · exact absurd h.1 (by decide)
    · exact h.2.2.1
  have hn : True := by
    rcases hr with h | h | h
    · exact absurd h.1 (by decide)
    · exact absurd h.1 (by decide)
    · trivial
  clear hr hR
  obtain ⟨j, rfl⟩ : ∃ j : Nat, at_ = (j : Int) + 1 := ⟨(at_ - 1).toNat, by omega⟩
  have hj : j < ss.length := by omega
  obtain ⟨b, rfl, c0⟩ := (HC.out.later HB.out).2 j hj
  have ht20 := HZ.out ss[j] (List.getElem_mem _)
  obtain ⟨t, ht⟩ : ∃ t, ss[j] = t := ⟨_, rfl⟩
  rw [ht] at c0 ht20
  have HTT := Lib.hid ht
  clear ht
  have j1 : (j : Int) + 1 - 1 = (j : Int) := by omega
  have j2 : IntKind.i64.wrap (j : Int) = (j : Int) := IntWalk.i64_in _ ⟨by omega, by omega⟩
  have j3 : IntKind.i64.wrap ((j : Int) + 1 - 1) = (j : Int) := by rw [j1]; exact j2
  have j4 : decide ((j : Int) < (ss.length : Int)) = true := bd (by omega)
  have j5 : decide (j < ss.length) = true := bd hj
  go_enter Tryd.func28, Tryd.ntmps28
  go_wp2_with fail
  go_ret2
  exact ⟨⟨_, _, rfl, ⟨by show t.size ≤ 100; omega, fun h => absurd h (by show ¬ ((1 : Int) = 0); decide), fun _ => ⟨j, hj, rfl, HTT.out.symm⟩⟩⟩, HB.out⟩
theorem put2_any (at_ n : Int) (word : ByteArray) (all : List Int) (A C : Option Addr) (c d : Nat) (ss : List ByteArray) (w : World) (hI : IsA w A all) (hC : WsA w C ss) (hR : RightP ss.length ⟨2, at_, n, word, all⟩) (hz : ∀ t ∈ ss, t.size ≤ 20) (hl : ss.length ≤ 8) (ha : all.length ≤ 5) (hw : word.size ≤ 20) : Calls Tryd.prog 28 #[pcV ⟨2, at_, n, word, all⟩ A c, .slice C ss.length d] w fun e w' => PutR ⟨2, at_, n, word, all⟩ ss w e w' := by
  unfold pcV
  have HB : Hid (Below w.heap.size w (w.alloc (.cells #[.int .i64 2, .int .i64 at_, .int .i64 n, .string word, .slice A all.length c] 55))) := Lib.hid ((Below.refl w.heap.size w).alloc (Nat.le_refl _) _)
  have HBOX : Hid (BoxAt w.heap.size (.cells #[.int .i64 2, .int .i64 at_, .int .i64 n, .string word, .slice A all.length c] 55) (w.alloc (.cells #[.int .i64 2, .int .i64 at_, .int .i64 n, .string word, .slice A all.length c] 55))) := Lib.hid (heap_alloc_last w _)
  have HI := Lib.hid hI
  have HC := Lib.hid hC
  have HZ := Lib.hid hz
  clear hI hC hz
  have hr := hR
  simp only [RightP] at hr
  have hat : 1 ≤ at_ ∧ at_ ≤ (ss.length : Int) := by
    rcases hr with h | h | h
    · exact absurd h.1 (by decide)
    · exact absurd h.1 (by decide)
    · exact h.2.2.1
  have hn : True := by
    rcases hr with h | h | h
    · exact absurd h.1 (by decide)
    · exact absurd h.1 (by decide)
    · trivial
  clear hr hR
  obtain ⟨j, rfl⟩ : ∃ j : Nat, at_ = (j : Int) + 1 := ⟨(at_ - 1).toNat, by omega⟩
  have hj : j < ss.length := by omega
  obtain ⟨b, rfl, c0⟩ := (HC.out.later HB.out).2 j hj
  have ht20 := HZ.out ss[j] (List.getElem_mem _)
  obtain ⟨t, ht⟩ : ∃ t, ss[j] = t := ⟨_, rfl⟩
  rw [ht] at c0 ht20
  have HTT := Lib.hid ht
  clear ht
  have j1 : (j : Int) + 1 - 1 = (j : Int) := by omega
  have j2 : IntKind.i64.wrap (j : Int) = (j : Int) := IntWalk.i64_in _ ⟨by omega, by omega⟩
  have j3 : IntKind.i64.wrap ((j : Int) + 1 - 1) = (j : Int) := by rw [j1]; exact j2
  have j4 : decide ((j : Int) < (ss.length : Int)) = true := bd (by omega)
  have j5 : decide (j < ss.length) = true := bd hj
  go_enter Tryd.func28, Tryd.ntmps28
  go_wp2_with fail
  go_ret2
  exact ⟨⟨_, _, rfl, ⟨by show t.size ≤ 100; omega, fun h => absurd h (by show ¬ ((2 : Int) = 0); decide), fun _ => ⟨j, hj, rfl, HTT.out.symm⟩⟩⟩, HB.out⟩
theorem put3_any (at_ n : Int) (word : ByteArray) (all : List Int) (A C : Option Addr) (c d : Nat) (ss : List ByteArray) (w : World) (hI : IsA w A all) (hC : WsA w C ss) (hR : RightP ss.length ⟨3, at_, n, word, all⟩) (hz : ∀ t ∈ ss, t.size ≤ 20) (hl : ss.length ≤ 8) (ha : all.length ≤ 5) (hw : word.size ≤ 20) : Calls Tryd.prog 28 #[pcV ⟨3, at_, n, word, all⟩ A c, .slice C ss.length d] w fun e w' => PutR ⟨3, at_, n, word, all⟩ ss w e w' := by
  unfold pcV
  have HB : Hid (Below w.heap.size w (w.alloc (.cells #[.int .i64 3, .int .i64 at_, .int .i64 n, .string word, .slice A all.length c] 55))) := Lib.hid ((Below.refl w.heap.size w).alloc (Nat.le_refl _) _)
  have HBOX : Hid (BoxAt w.heap.size (.cells #[.int .i64 3, .int .i64 at_, .int .i64 n, .string word, .slice A all.length c] 55) (w.alloc (.cells #[.int .i64 3, .int .i64 at_, .int .i64 n, .string word, .slice A all.length c] 55))) := Lib.hid (heap_alloc_last w _)
  have HI := Lib.hid hI
  have HC := Lib.hid hC
  have HZ := Lib.hid hz
  clear hI hC hz
  have hr := hR
  simp only [RightP] at hr
  have hnn : (∀ k ∈ all, 1 ≤ k ∧ k ≤ (ss.length : Int)) ∧ 1 ≤ n ∧ n ≤ 1000 := by
    rcases hr with h | h | h
    · exact absurd h.1 (by decide)
    · exact ⟨h.2.1, h.2.2⟩
    · exact absurd rfl h.2.1
  clear hr hR
  obtain ⟨hal, hn⟩ := hnn
  have HAL := Lib.hid hal
  clear hal
  obtain ⟨q, rfl⟩ : ∃ q : Nat, n = (q : Int) := ⟨n.toNat, by omega⟩
  have q0 : ((q : Int) == 0) = false := bn _ _ (by omega)
  have q1 : (q == 0) = false := beq_eq_false_iff_ne.2 (by omega)
  have q2 : ((q : Int) = 0) = False := eq_false (by omega)
  have q3 : (q = 0) = False := eq_false (by omega)
  have q4 : IntKind.u32.wrap (q : Int) = (q : Int) := by simp only [IntKind.wrap, IntKind.bits, IntKind.signed]; simp; omega
  have HI2 := Lib.hid (HI.out.later HB.out)
  have HC2 := Lib.hid (HC.out.later HB.out)
  go_enter Tryd.func28, Tryd.ntmps28
  go_wp2_with fail
  generalize w.alloc (.cells #[.int .i64 3, .int .i64 at_, .int .i64 (q : Nat), .string word, .slice A all.length c] 55) = w0 at HB HBOX HI2 HC2 ⊢
  go_loopg [6, 23] all.length (fun gk v6 vi w' => ∃ (i : Nat) (V : ByteArray), v6 = .string V ∧ vi = .int .i64 (i : Nat) ∧ gk + i = all.length ∧ w0 = w' ∧ V.size ≤ 20 * i)
  case atStart => exact ⟨0, _, rfl, rfl, rfl, rfl, Nat.le_refl _⟩
  case round =>
    obtain ⟨i, V, rfl, rfl, hgi, rfl, hV⟩ := hrel
    by_cases hi : i < all.length
    · have d3 : decide ((i : Int) < (all.length : Int)) = true := bd (by omega)
      have d4 : decide (i < all.length) = true := bd hi
      obtain ⟨b5, rfl, c0⟩ := HI2.out i hi
      have hx8 := HAL.out all[i] (List.getElem_mem _)
      obtain ⟨x, hx⟩ : ∃ x, all[i] = x := ⟨_, rfl⟩
      rw [hx] at c0 hx8
      clear hx
      obtain ⟨j, rfl⟩ : ∃ j : Nat, x = (j : Int) + 1 := ⟨(x - 1).toNat, by omega⟩
      have hj : j < ss.length := by omega
      obtain ⟨b, rfl, c1⟩ := HC2.out.2 j hj
      have ht20 := HZ.out ss[j] (List.getElem_mem _)
      obtain ⟨t, ht⟩ : ∃ t, ss[j] = t := ⟨_, rfl⟩
      rw [ht] at c1 ht20
      clear ht
      have j1 : (j : Int) + 1 - 1 = (j : Int) := by omega
      have j2 : IntKind.i64.wrap (j : Int) = (j : Int) := IntWalk.i64_in _ ⟨by omega, by omega⟩
      have j3 : IntKind.i64.wrap ((j : Int) + 1 - 1) = (j : Int) := by rw [j1]; exact j2
      have j4 : decide ((j : Int) < (ss.length : Int)) = true := bd (by omega)
      have j5 : decide (j < ss.length) = true := bd hj
      have hV2 : (V ++ t).size ≤ 20 * (i + 1) := by rw [ByteArray.size_append]; omega
      have z23 : V.size + t.size ≤ 9223372036854775807 := by omega
      have z23a := eq_true z23
      have z23b : decide (V.size + t.size ≤ 9223372036854775807) = true := decide_eq_true z23
      have z23c : (9223372036854775807 < V.size + t.size) = False := eq_false (Nat.not_lt.2 z23)
      go_wp2_with fail
      go_roundg (gk - 1)
      case measure => omega
      case rel => exact ⟨i + 1, _, rfl, by simp, by omega, rfl, hV2⟩
    · have d3 : decide ((i : Int) < (all.length : Int)) = false := nd (by omega)
      have d4 : decide (i < all.length) = false := nd hi
      have HH := Lib.hid (fun W => hash2_any V (by omega) W)
      go_upto_region 10 with fail
      refine start_ (n := 10) (S := (fun w' => BoxAt w.heap.size (.cells #[.int .i64 3, .int .i64 at_, .int .i64 (q : Nat), .string word, .slice A all.length c] 55) w' ∧ Below w.heap.size w w')) (ds := []) #[false, false, false, false, false, false, false, false, false, false] (by kernel_rfl) rfl rfl ⟨HBOX.out, below_drew HB.out⟩ (fun hHeld => ?_)
      refine pure_ (i := 0) (N := (some 35)) (v := ?_) (a' := ?_) #[true, false, false, false, false, false, false, false, false, false] rfl rfl (by kernel_rfl) (fun _ _ _ h => h) (Or.inl ⟨by rfl, ?_⟩) ?_ ?_
      rotate_left
      · intro w'
        go_simp
        with_reducible rfl
      rotate_left
      · simp only [Act.put, List.setIfInBounds_toArray, List.set_cons_zero, List.set_cons_succ]
        rfl
      refine pure_ (i := 2) (N := (some 37)) (v := ?_) (a' := ?_) #[true, false, true, false, false, false, false, false, false, false] rfl rfl (by kernel_rfl) (fun _ _ _ h => h) (Or.inl ⟨by rfl, ?_⟩) ?_ ?_
      rotate_left
      · intro w'
        go_simp
        with_reducible rfl
      rotate_left
      · simp only [Act.put, List.setIfInBounds_toArray, List.set_cons_zero, List.set_cons_succ]
        rfl
      refine take_ (i := 3) (N := (some 38)) (v := ?_) (a' := ?_) #[true, false, true, true, false, false, false, false, false, false] rfl rfl (by kernel_rfl) (fun _ _ _ h => h) (Or.inl ⟨by rfl, ?_⟩) hHeld ?_ ?_
      rotate_left
      · rintro w' ⟨s0, s1⟩
        have k2 : w'.cell? ⟨w.heap.size, 2, none⟩ = some (.int .i64 (q : Nat)) := by rw [Lib.cell_of_heap s0]; rfl
        go_simp
        with_reducible rfl
      rotate_left
      · simp only [Act.put, List.setIfInBounds_toArray, List.set_cons_zero, List.set_cons_succ]
        rfl
      refine pure_ (i := 4) (N := (some 39)) (v := ?_) (a' := ?_) #[true, false, true, true, true, false, false, false, false, false] rfl rfl (by kernel_rfl) (fun _ _ _ h => h) (Or.inl ⟨by rfl, ?_⟩) ?_ ?_
      rotate_left
      · intro w'
        go_simp
        with_reducible rfl
      rotate_left
      · simp only [Act.put, List.setIfInBounds_toArray, List.set_cons_zero, List.set_cons_succ]
        rfl
      refine one_ (i := 1) (N := (some 36)) #[true, true, true, true, true, false, false, false, false, false] rfl rfl (by kernel_rfl) (by decide) (fun K hK => ?_)
      refine goes_ Tryd.func42 (by kernel_rfl) rfl #[.string V] (by rfl) rfl rfl (by (try simp only [List.map_toArray, List.map_cons, List.map_nil]); first | done | rfl) ?_
      refine (HH.out _).mono ?_
      rintro e wc ⟨⟨h, rfl, h0, h1⟩, rfl⟩
      obtain ⟨hh, rfl⟩ : ∃ hh : Nat, h = (hh : Int) := ⟨h.toNat, by omega⟩
      obtain ⟨r, hr1, hr2, hr3⟩ : ∃ r : Nat, Int.tmod (hh : Int) (q : Int) = (r : Int) ∧ (hh : Int) % (q : Int) = (r : Int) ∧ r < 1000 := ⟨hh % q, by rw [Int.tmod_eq_emod_of_nonneg (by omega)]; exact (Int.natCast_emod hh q).symm, (Int.natCast_emod hh q).symm, by have := Nat.mod_lt hh (show 0 < q by omega); omega⟩
      have r1 : IntKind.i64.wrap (r : Int) = (r : Int) := IntWalk.i64_in _ ⟨by omega, by omega⟩
      have HDR := Lib.hid (fun W => dec2_any r (by omega) W)
      have hrs := dig_len19 r (by omega)
      obtain ⟨R, hR⟩ : ∃ R, strOf (dig r) = R := ⟨_, rfl⟩
      have hRs : R.size ≤ 19 := by rw [← hR, strOf_size]; exact hrs.2
      rw [hR] at HDR
      clear hR hrs h0 h1
      refine ⟨_, rfl, ?_⟩
      have hs2 := hHeld
      refine hK.out _ _ hs2 (fun hHeld => ?_)
      clear hK K
      refine norm_ (a' := ?_) ?_ ?_
      rotate_left
      · show Act.put _ (some 36) _ = _
        simp only [Act.put, List.setIfInBounds_toArray, List.set_cons_zero, List.set_cons_succ]
        rfl
      refine pure_ (i := 5) (N := (some 40)) (v := ?_) (a' := ?_) #[true, true, true, true, true, true, false, false, false, false] rfl rfl (by kernel_rfl) (fun _ _ _ h => h) (Or.inl ⟨by rfl, ?_⟩) ?_ ?_
      rotate_left
      · intro w'
        go_simp
        with_reducible rfl
      rotate_left
      · simp only [Act.put, List.setIfInBounds_toArray, List.set_cons_zero, List.set_cons_succ]
        rfl
      refine pure_ (i := 6) (N := (some 41)) (v := ?_) (a' := ?_) #[true, true, true, true, true, true, true, false, false, false] rfl rfl (by kernel_rfl) (fun _ _ _ h => h) (Or.inl ⟨by rfl, ?_⟩) ?_ ?_
      rotate_left
      · intro w'
        go_simp
        with_reducible rfl
      rotate_left
      · simp only [Act.put, List.setIfInBounds_toArray, List.set_cons_zero, List.set_cons_succ]
        rfl
      refine one_ (i := 7) (N := (some 42)) #[true, true, true, true, true, true, true, true, false, false] rfl rfl (by kernel_rfl) (by decide) (fun K hK => ?_)
      refine goes_ Tryd.func10 (by kernel_rfl) rfl #[.int .i64 (r : Nat)] (by rfl) rfl rfl (by (try simp only [List.map_toArray, List.map_cons, List.map_nil]); first | done | rfl) ?_
      refine (HDR.out _).mono ?_
      rintro e wc ⟨rfl, hbc⟩
      refine ⟨_, rfl, ?_⟩
      have hs3 := And.intro (hs2.1.later hbc) (hs2.2.trans (hbc.mono hs2.2.size))
      clear hbc hs2 hHeld
      refine hK.out _ _ hs3 (fun hHeld => ?_)
      clear hK K
      refine norm_ (a' := ?_) ?_ ?_
      rotate_left
      · show Act.put _ (some 42) _ = _
        simp only [Act.put, List.setIfInBounds_toArray, List.set_cons_zero, List.set_cons_succ]
        rfl
      refine pure_ (i := 8) (N := (some 4)) (v := ?_) (a' := ?_) #[true, true, true, true, true, true, true, true, true, false] rfl rfl (by kernel_rfl) (fun _ _ _ h => h) (Or.inl ⟨by rfl, ?_⟩) ?_ ?_
      rotate_left
      · intro w'
        go_simp
        with_reducible rfl
      rotate_left
      · simp only [Act.put, List.setIfInBounds_toArray, List.set_cons_zero, List.set_cons_succ]
        rfl
      refine pure_ (i := 9) (N := (some 5)) (v := ?_) (a' := ?_) #[true, true, true, true, true, true, true, true, true, true] rfl rfl (by kernel_rfl) (fun _ _ _ h => h) (Or.inl ⟨by rfl, ?_⟩) ?_ ?_
      rotate_left
      · intro w'
        go_simp
        with_reducible rfl
      rotate_left
      · simp only [Act.put, List.setIfInBounds_toArray, List.set_cons_zero, List.set_cons_succ]
        rfl
      refine done_ (by kernel_rfl) ?_
      go_wp2_with fail
      go_ret2
      exact ⟨⟨_, _, rfl, put_weak (by show R.size ≤ 100; omega) (by show ¬ ((3 : Int) = 0); decide) (by show ¬ ((3 : Int) = 1); decide) (by show ¬ ((3 : Int) = 2); decide)⟩, hs3.2⟩
theorem put4_any (at_ n : Int) (word : ByteArray) (all : List Int) (A C : Option Addr) (c d : Nat) (ss : List ByteArray) (w : World) (hI : IsA w A all) (hC : WsA w C ss) (hR : RightP ss.length ⟨4, at_, n, word, all⟩) (hz : ∀ t ∈ ss, t.size ≤ 20) (hl : ss.length ≤ 8) (ha : all.length ≤ 5) (hw : word.size ≤ 20) : Calls Tryd.prog 28 #[pcV ⟨4, at_, n, word, all⟩ A c, .slice C ss.length d] w fun e w' => PutR ⟨4, at_, n, word, all⟩ ss w e w' := by
  unfold pcV
  have HB : Hid (Below w.heap.size w (w.alloc (.cells #[.int .i64 4, .int .i64 at_, .int .i64 n, .string word, .slice A all.length c] 55))) := Lib.hid ((Below.refl w.heap.size w).alloc (Nat.le_refl _) _)
  have HBOX : Hid (BoxAt w.heap.size (.cells #[.int .i64 4, .int .i64 at_, .int .i64 n, .string word, .slice A all.length c] 55) (w.alloc (.cells #[.int .i64 4, .int .i64 at_, .int .i64 n, .string word, .slice A all.length c] 55))) := Lib.hid (heap_alloc_last w _)
  have HI := Lib.hid hI
  have HC := Lib.hid hC
  have HZ := Lib.hid hz
  clear hI hC hz
  have hr := hR
  simp only [RightP] at hr
  have hat : 1 ≤ at_ ∧ at_ ≤ (ss.length : Int) := by
    rcases hr with h | h | h
    · exact absurd h.1 (by decide)
    · exact absurd h.1 (by decide)
    · exact h.2.2.1
  have hn : True := by
    rcases hr with h | h | h
    · exact absurd h.1 (by decide)
    · exact absurd h.1 (by decide)
    · trivial
  clear hr hR
  obtain ⟨j, rfl⟩ : ∃ j : Nat, at_ = (j : Int) + 1 := ⟨(at_ - 1).toNat, by omega⟩
  have hj : j < ss.length := by omega
  obtain ⟨b, rfl, c0⟩ := (HC.out.later HB.out).2 j hj
  have ht20 := HZ.out ss[j] (List.getElem_mem _)
  obtain ⟨t, ht⟩ : ∃ t, ss[j] = t := ⟨_, rfl⟩
  rw [ht] at c0 ht20
  have HTT := Lib.hid ht
  clear ht
  have j1 : (j : Int) + 1 - 1 = (j : Int) := by omega
  have j2 : IntKind.i64.wrap (j : Int) = (j : Int) := IntWalk.i64_in _ ⟨by omega, by omega⟩
  have j3 : IntKind.i64.wrap ((j : Int) + 1 - 1) = (j : Int) := by rw [j1]; exact j2
  have j4 : decide ((j : Int) < (ss.length : Int)) = true := bd (by omega)
  have j5 : decide (j < ss.length) = true := bd hj
  have HS := Lib.hid (fun W => spl_any t word ht20 W)
  go_enter Tryd.func28, Tryd.ntmps28
  go_wp2_with fail
  refine (HS.out _).mono ?_
  rintro e w1 ⟨⟨s, bb, rfl, hs⟩, rfl⟩
  have HSS := Lib.hid hs
  clear hs
  go_wp2_with fail
  go_ret2
  exact ⟨⟨_, _, rfl, put_weak (by exact HSS.out) (by show ¬ ((4 : Int) = 0); decide) (by show ¬ ((4 : Int) = 1); decide) (by show ¬ ((4 : Int) = 2); decide)⟩, HB.out⟩
theorem put5_any (at_ n : Int) (word : ByteArray) (all : List Int) (A C : Option Addr) (c d : Nat) (ss : List ByteArray) (w : World) (hI : IsA w A all) (hC : WsA w C ss) (hR : RightP ss.length ⟨5, at_, n, word, all⟩) (hz : ∀ t ∈ ss, t.size ≤ 20) (hl : ss.length ≤ 8) (ha : all.length ≤ 5) (hw : word.size ≤ 20) : Calls Tryd.prog 28 #[pcV ⟨5, at_, n, word, all⟩ A c, .slice C ss.length d] w fun e w' => PutR ⟨5, at_, n, word, all⟩ ss w e w' := by
  unfold pcV
  have HB : Hid (Below w.heap.size w (w.alloc (.cells #[.int .i64 5, .int .i64 at_, .int .i64 n, .string word, .slice A all.length c] 55))) := Lib.hid ((Below.refl w.heap.size w).alloc (Nat.le_refl _) _)
  have HBOX : Hid (BoxAt w.heap.size (.cells #[.int .i64 5, .int .i64 at_, .int .i64 n, .string word, .slice A all.length c] 55) (w.alloc (.cells #[.int .i64 5, .int .i64 at_, .int .i64 n, .string word, .slice A all.length c] 55))) := Lib.hid (heap_alloc_last w _)
  have HI := Lib.hid hI
  have HC := Lib.hid hC
  have HZ := Lib.hid hz
  clear hI hC hz
  have hr := hR
  simp only [RightP] at hr
  have hat : 1 ≤ at_ ∧ at_ ≤ (ss.length : Int) := by
    rcases hr with h | h | h
    · exact absurd h.1 (by decide)
    · exact absurd h.1 (by decide)
    · exact h.2.2.1
  have hn : 1 ≤ n ∧ n ≤ 1000 := by
    rcases hr with h | h | h
    · exact absurd h.1 (by decide)
    · exact absurd h.1 (by decide)
    · have h4 := h.2.2.2; simp at h4; exact h4
  clear hr hR
  obtain ⟨j, rfl⟩ : ∃ j : Nat, at_ = (j : Int) + 1 := ⟨(at_ - 1).toNat, by omega⟩
  have hj : j < ss.length := by omega
  obtain ⟨b, rfl, c0⟩ := (HC.out.later HB.out).2 j hj
  have ht20 := HZ.out ss[j] (List.getElem_mem _)
  obtain ⟨t, ht⟩ : ∃ t, ss[j] = t := ⟨_, rfl⟩
  rw [ht] at c0 ht20
  have HTT := Lib.hid ht
  clear ht
  have j1 : (j : Int) + 1 - 1 = (j : Int) := by omega
  have j2 : IntKind.i64.wrap (j : Int) = (j : Int) := IntWalk.i64_in _ ⟨by omega, by omega⟩
  have j3 : IntKind.i64.wrap ((j : Int) + 1 - 1) = (j : Int) := by rw [j1]; exact j2
  have j4 : decide ((j : Int) < (ss.length : Int)) = true := bd (by omega)
  have j5 : decide (j < ss.length) = true := bd hj
  obtain ⟨q, rfl⟩ : ∃ q : Nat, n = (q : Int) := ⟨n.toNat, by omega⟩
  go_enter Tryd.func28, Tryd.ntmps28
  go_upto_region 19 with fail
  generalize w.alloc (.cells #[.int .i64 5, .int .i64 ((j : Int) + 1), .int .i64 (q : Nat), .string word, .slice A all.length c] 55) = w0 at HB HBOX c0 ⊢
  by_cases hq : q ≤ t.size
  · have u1 : ((t.size : Int) < (q : Int)) = False := eq_false (by omega)
    have u2 : (t.size < q) = False := eq_false (by omega)
    have u5 : (q ≤ t.size) = True := eq_true (by omega)
    have u6 : ((q : Int) ≤ (t.size : Int)) = True := eq_true (by omega)
    have z7 : q + 1 ≤ 9223372036854775807 := by omega
    have z7a := eq_true z7
    have z7b : decide (q + 1 ≤ 9223372036854775807) = true := decide_eq_true z7
    have z7c : (9223372036854775807 < q + 1) = False := eq_false (Nat.not_lt.2 z7)
    have z8 : q + 1 + (t.size - q) ≤ 9223372036854775807 := by omega
    have z8a := eq_true z8
    have z8b : decide (q + 1 + (t.size - q) ≤ 9223372036854775807) = true := decide_eq_true z8
    have z8c : (9223372036854775807 < q + 1 + (t.size - q)) = False := eq_false (Nat.not_lt.2 z8)
    have z10 : (t.extract 0 q).size + 1 ≤ 9223372036854775807 := by simp; omega
    have z10a := eq_true z10
    have z10b : decide ((t.extract 0 q).size + 1 ≤ 9223372036854775807) = true := decide_eq_true z10
    have z10c : (9223372036854775807 < (t.extract 0 q).size + 1) = False := eq_false (Nat.not_lt.2 z10)
    have z11 : (t.extract 0 q ++ (⟨#[46]⟩ : ByteArray)).size + (t.extract q t.size).size ≤ 9223372036854775807 := by rw [ByteArray.size_append]; show _ + 1 + _ ≤ _; simp; omega
    have z11a := eq_true z11
    have z11b : decide ((t.extract 0 q ++ (⟨#[46]⟩ : ByteArray)).size + (t.extract q t.size).size ≤ 9223372036854775807) = true := decide_eq_true z11
    have z11c : (9223372036854775807 < (t.extract 0 q ++ (⟨#[46]⟩ : ByteArray)).size + (t.extract q t.size).size) = False := eq_false (Nat.not_lt.2 z11)
    refine start_ (n := 23) (S := (fun w' => BoxAt w.heap.size (.cells #[.int .i64 5, .int .i64 ((j : Int) + 1), .int .i64 (q : Nat), .string word, .slice A all.length c] 55) w' ∧ Below w.heap.size w w')) (ds := []) #[false, false, false, false, false, false, false, false, false, false, false, false, false, false, false, false, false, false, false, false, false, false, false] (by kernel_rfl) rfl rfl ⟨HBOX.out, below_drew HB.out⟩ (fun hHeld => ?_)
    refine pure_ (i := 0) (N := (some 65)) (v := ?_) (a' := ?_) #[true, false, false, false, false, false, false, false, false, false, false, false, false, false, false, false, false, false, false, false, false, false, false] rfl rfl (by kernel_rfl) (fun _ _ _ h => h) (Or.inl ⟨by rfl, ?_⟩) ?_ ?_
    rotate_left
    · intro w'
      go_simp
      with_reducible rfl
    rotate_left
    · simp only [Act.put, List.setIfInBounds_toArray, List.set_cons_zero, List.set_cons_succ]
      rfl
    refine pure_ (i := 1) (N := (some 66)) (v := ?_) (a' := ?_) #[true, true, false, false, false, false, false, false, false, false, false, false, false, false, false, false, false, false, false, false, false, false, false] rfl rfl (by kernel_rfl) (fun _ _ _ h => h) (Or.inl ⟨by rfl, ?_⟩) ?_ ?_
    rotate_left
    · intro w'
      go_simp
      with_reducible rfl
    rotate_left
    · simp only [Act.put, List.setIfInBounds_toArray, List.set_cons_zero, List.set_cons_succ]
      rfl
    refine take_ (i := 2) (N := (some 67)) (v := ?_) (a' := ?_) #[true, true, true, false, false, false, false, false, false, false, false, false, false, false, false, false, false, false, false, false, false, false, false] rfl rfl (by kernel_rfl) (fun _ _ _ h => h) (Or.inl ⟨by rfl, ?_⟩) hHeld ?_ ?_
    rotate_left
    · rintro w' ⟨s0, s1⟩
      have k2 : w'.cell? ⟨w.heap.size, 2, none⟩ = some (.int .i64 (q : Nat)) := by rw [Lib.cell_of_heap s0]; rfl
      go_simp
      with_reducible rfl
    rotate_left
    · simp only [Act.put, List.setIfInBounds_toArray, List.set_cons_zero, List.set_cons_succ]
      rfl
    refine pure_ (i := 3) (N := (some 68)) (v := ?_) (a' := ?_) #[true, true, true, true, false, false, false, false, false, false, false, false, false, false, false, false, false, false, false, false, false, false, false] rfl rfl (by kernel_rfl) (fun _ _ _ h => h) (Or.inl ⟨by rfl, ?_⟩) ?_ ?_
    rotate_left
    · intro w'
      go_simp
      with_reducible rfl
    rotate_left
    · simp only [Act.put, List.setIfInBounds_toArray, List.set_cons_zero, List.set_cons_succ]
      rfl
    refine pure_ (i := 4) (N := (some 69)) (v := ?_) (a' := ?_) #[true, true, true, true, true, false, false, false, false, false, false, false, false, false, false, false, false, false, false, false, false, false, false] rfl rfl (by kernel_rfl) (fun _ _ _ h => h) (Or.inl ⟨by rfl, ?_⟩) ?_ ?_
    rotate_left
    · intro w'
      go_simp
      with_reducible rfl
    rotate_left
    · simp only [Act.put, List.setIfInBounds_toArray, List.set_cons_zero, List.set_cons_succ]
      rfl
    refine pure_ (i := 5) (N := (some 70)) (v := ?_) (a' := ?_) #[true, true, true, true, true, true, false, false, false, false, false, false, false, false, false, false, false, false, false, false, false, false, false] rfl rfl (by kernel_rfl) (fun _ _ _ h => h) (Or.inl ⟨by rfl, ?_⟩) ?_ ?_
    rotate_left
    · intro w'
      go_simp
      with_reducible rfl
    rotate_left
    · simp only [Act.put, List.setIfInBounds_toArray, List.set_cons_zero, List.set_cons_succ]
      rfl
    refine pure_ (i := 6) (N := (some 71)) (v := ?_) (a' := ?_) #[true, true, true, true, true, true, true, false, false, false, false, false, false, false, false, false, false, false, false, false, false, false, false] rfl rfl (by kernel_rfl) (fun _ _ _ h => h) (Or.inl ⟨by rfl, ?_⟩) ?_ ?_
    rotate_left
    · intro w'
      go_simp
      with_reducible rfl
    rotate_left
    · simp only [Act.put, List.setIfInBounds_toArray, List.set_cons_zero, List.set_cons_succ]
      rfl
    refine pure_ (i := 7) (N := (some 72)) (v := ?_) (a' := ?_) #[true, true, true, true, true, true, true, true, false, false, false, false, false, false, false, false, false, false, false, false, false, false, false] rfl rfl (by kernel_rfl) (fun _ _ _ h => h) (Or.inl ⟨by rfl, ?_⟩) ?_ ?_
    rotate_left
    · intro w'
      go_simp
      with_reducible rfl
    rotate_left
    · simp only [Act.put, List.setIfInBounds_toArray, List.set_cons_zero, List.set_cons_succ]
      rfl
    refine pure_ (i := 8) (N := (some 73)) (v := ?_) (a' := ?_) #[true, true, true, true, true, true, true, true, true, false, false, false, false, false, false, false, false, false, false, false, false, false, false] rfl rfl (by kernel_rfl) (fun _ _ _ h => h) (Or.inl ⟨by rfl, ?_⟩) ?_ ?_
    rotate_left
    · intro w'
      go_simp
      with_reducible rfl
    rotate_left
    · simp only [Act.put, List.setIfInBounds_toArray, List.set_cons_zero, List.set_cons_succ]
      rfl
    refine pure_ (i := 9) (N := (some 74)) (v := ?_) (a' := ?_) #[true, true, true, true, true, true, true, true, true, true, false, false, false, false, false, false, false, false, false, false, false, false, false] rfl rfl (by kernel_rfl) (fun _ _ _ h => h) (Or.inl ⟨by rfl, ?_⟩) ?_ ?_
    rotate_left
    · intro w'
      go_simp
      with_reducible rfl
    rotate_left
    · simp only [Act.put, List.setIfInBounds_toArray, List.set_cons_zero, List.set_cons_succ]
      rfl
    refine take_ (i := 10) (N := (some 75)) (v := ?_) (a' := ?_) #[true, true, true, true, true, true, true, true, true, true, true, false, false, false, false, false, false, false, false, false, false, false, false] rfl rfl (by kernel_rfl) (fun _ _ _ h => h) (Or.inl ⟨by rfl, ?_⟩) hHeld ?_ ?_
    rotate_left
    · rintro w' ⟨s0, s1⟩
      have k2 : w'.cell? ⟨w.heap.size, 2, none⟩ = some (.int .i64 (q : Nat)) := by rw [Lib.cell_of_heap s0]; rfl
      go_simp
      with_reducible rfl
    rotate_left
    · simp only [Act.put, List.setIfInBounds_toArray, List.set_cons_zero, List.set_cons_succ]
      rfl
    refine pure_ (i := 11) (N := (some 76)) (v := ?_) (a' := ?_) #[true, true, true, true, true, true, true, true, true, true, true, true, false, false, false, false, false, false, false, false, false, false, false] rfl rfl (by kernel_rfl) (fun _ _ _ h => h) (Or.inl ⟨by rfl, ?_⟩) ?_ ?_
    rotate_left
    · intro w'
      go_simp
      with_reducible rfl
    rotate_left
    · simp only [Act.put, List.setIfInBounds_toArray, List.set_cons_zero, List.set_cons_succ]
      rfl
    refine pure_ (i := 12) (N := (some 77)) (v := ?_) (a' := ?_) #[true, true, true, true, true, true, true, true, true, true, true, true, true, false, false, false, false, false, false, false, false, false, false] rfl rfl (by kernel_rfl) (fun _ _ _ h => h) (Or.inl ⟨by rfl, ?_⟩) ?_ ?_
    rotate_left
    · intro w'
      go_simp
      with_reducible rfl
    rotate_left
    · simp only [Act.put, List.setIfInBounds_toArray, List.set_cons_zero, List.set_cons_succ]
      rfl
    refine pure_ (i := 13) (N := (some 78)) (v := ?_) (a' := ?_) #[true, true, true, true, true, true, true, true, true, true, true, true, true, true, false, false, false, false, false, false, false, false, false] rfl rfl (by kernel_rfl) (fun _ _ _ h => h) (Or.inl ⟨by rfl, ?_⟩) ?_ ?_
    rotate_left
    · intro w'
      go_simp
      with_reducible rfl
    rotate_left
    · simp only [Act.put, List.setIfInBounds_toArray, List.set_cons_zero, List.set_cons_succ]
      rfl
    refine pure_ (i := 14) (N := (some 79)) (v := ?_) (a' := ?_) #[true, true, true, true, true, true, true, true, true, true, true, true, true, true, true, false, false, false, false, false, false, false, false] rfl rfl (by kernel_rfl) (fun _ _ _ h => h) (Or.inl ⟨by rfl, ?_⟩) ?_ ?_
    rotate_left
    · intro w'
      go_simp
      with_reducible rfl
    rotate_left
    · simp only [Act.put, List.setIfInBounds_toArray, List.set_cons_zero, List.set_cons_succ]
      rfl
    refine pure_ (i := 15) (N := (some 80)) (v := ?_) (a' := ?_) #[true, true, true, true, true, true, true, true, true, true, true, true, true, true, true, true, false, false, false, false, false, false, false] rfl rfl (by kernel_rfl) (fun _ _ _ h => h) (Or.inl ⟨by rfl, ?_⟩) ?_ ?_
    rotate_left
    · intro w'
      go_simp
      with_reducible rfl
    rotate_left
    · simp only [Act.put, List.setIfInBounds_toArray, List.set_cons_zero, List.set_cons_succ]
      rfl
    refine pure_ (i := 16) (N := (some 81)) (v := ?_) (a' := ?_) #[true, true, true, true, true, true, true, true, true, true, true, true, true, true, true, true, true, false, false, false, false, false, false] rfl rfl (by kernel_rfl) (fun _ _ _ h => h) (Or.inl ⟨by rfl, ?_⟩) ?_ ?_
    rotate_left
    · intro w'
      go_simp
      with_reducible rfl
    rotate_left
    · simp only [Act.put, List.setIfInBounds_toArray, List.set_cons_zero, List.set_cons_succ]
      rfl
    refine take_ (i := 17) (N := (some 82)) (v := ?_) (a' := ?_) #[true, true, true, true, true, true, true, true, true, true, true, true, true, true, true, true, true, true, false, false, false, false, false] rfl rfl (by kernel_rfl) (fun _ _ _ h => h) (Or.inl ⟨by rfl, ?_⟩) hHeld ?_ ?_
    rotate_left
    · rintro w' ⟨s0, s1⟩
      have k2 : w'.cell? ⟨w.heap.size, 2, none⟩ = some (.int .i64 (q : Nat)) := by rw [Lib.cell_of_heap s0]; rfl
      go_simp
      with_reducible rfl
    rotate_left
    · simp only [Act.put, List.setIfInBounds_toArray, List.set_cons_zero, List.set_cons_succ]
      rfl
    refine pure_ (i := 18) (N := (some 83)) (v := ?_) (a' := ?_) #[true, true, true, true, true, true, true, true, true, true, true, true, true, true, true, true, true, true, true, false, false, false, false] rfl rfl (by kernel_rfl) (fun _ _ _ h => h) (Or.inl ⟨by rfl, ?_⟩) ?_ ?_
    rotate_left
    · intro w'
      go_simp
      with_reducible rfl
    rotate_left
    · simp only [Act.put, List.setIfInBounds_toArray, List.set_cons_zero, List.set_cons_succ]
      rfl
    refine pure_ (i := 19) (N := (some 84)) (v := ?_) (a' := ?_) #[true, true, true, true, true, true, true, true, true, true, true, true, true, true, true, true, true, true, true, true, false, false, false] rfl rfl (by kernel_rfl) (fun _ _ _ h => h) (Or.inl ⟨by rfl, ?_⟩) ?_ ?_
    rotate_left
    · intro w'
      go_simp
      with_reducible rfl
    rotate_left
    · simp only [Act.put, List.setIfInBounds_toArray, List.set_cons_zero, List.set_cons_succ]
      rfl
    refine pure_ (i := 20) (N := (some 85)) (v := ?_) (a' := ?_) #[true, true, true, true, true, true, true, true, true, true, true, true, true, true, true, true, true, true, true, true, true, false, false] rfl rfl (by kernel_rfl) (fun _ _ _ h => h) (Or.inl ⟨by rfl, ?_⟩) ?_ ?_
    rotate_left
    · intro w'
      go_simp
      with_reducible rfl
    rotate_left
    · simp only [Act.put, List.setIfInBounds_toArray, List.set_cons_zero, List.set_cons_succ]
      rfl
    refine pure_ (i := 21) (N := (some 4)) (v := ?_) (a' := ?_) #[true, true, true, true, true, true, true, true, true, true, true, true, true, true, true, true, true, true, true, true, true, true, false] rfl rfl (by kernel_rfl) (fun _ _ _ h => h) (Or.inl ⟨by rfl, ?_⟩) ?_ ?_
    rotate_left
    · intro w'
      go_simp
      with_reducible rfl
    rotate_left
    · simp only [Act.put, List.setIfInBounds_toArray, List.set_cons_zero, List.set_cons_succ]
      rfl
    refine pure_ (i := 22) (N := (some 5)) (v := ?_) (a' := ?_) #[true, true, true, true, true, true, true, true, true, true, true, true, true, true, true, true, true, true, true, true, true, true, true] rfl rfl (by kernel_rfl) (fun _ _ _ h => h) (Or.inl ⟨by rfl, ?_⟩) ?_ ?_
    rotate_left
    · intro w'
      go_simp
      with_reducible rfl
    rotate_left
    · simp only [Act.put, List.setIfInBounds_toArray, List.set_cons_zero, List.set_cons_succ]
      rfl
    refine done_ (by kernel_rfl) ?_
    go_wp2_with fail
    go_ret2
    exact ⟨⟨_, _, rfl, put_weak (by show ByteArray.size _ ≤ 100; (try simp only [ByteArray.size_append, ByteArray.size_extract, show (⟨#[46]⟩ : ByteArray).size = 1 from rfl]); omega) (by show ¬ ((5 : Int) = 0); decide) (by show ¬ ((5 : Int) = 1); decide) (by show ¬ ((5 : Int) = 2); decide)⟩, hHeld.2⟩
  · have u1 : ((t.size : Int) < (q : Int)) = True := eq_true (by omega)
    have u2 : (t.size < q) = True := eq_true (by omega)
    have z9 : t.size + 1 + 0 ≤ 9223372036854775807 := by omega
    have z9a := eq_true z9
    have z9b : decide (t.size + 1 + 0 ≤ 9223372036854775807) = true := decide_eq_true z9
    have z9c : (9223372036854775807 < t.size + 1 + 0) = False := eq_false (Nat.not_lt.2 z9)
    have z12 : t.size + 1 ≤ 9223372036854775807 := by omega
    have z12a := eq_true z12
    have z12b : decide (t.size + 1 ≤ 9223372036854775807) = true := decide_eq_true z12
    have z12c : (9223372036854775807 < t.size + 1) = False := eq_false (Nat.not_lt.2 z12)
    have z13 : (t ++ (⟨#[46]⟩ : ByteArray)).size + (t.extract t.size t.size).size ≤ 9223372036854775807 := by rw [ByteArray.size_append]; show _ + 1 + _ ≤ _; simp; omega
    have z13a := eq_true z13
    have z13b : decide ((t ++ (⟨#[46]⟩ : ByteArray)).size + (t.extract t.size t.size).size ≤ 9223372036854775807) = true := decide_eq_true z13
    have z13c : (9223372036854775807 < (t ++ (⟨#[46]⟩ : ByteArray)).size + (t.extract t.size t.size).size) = False := eq_false (Nat.not_lt.2 z13)
    refine start_ (n := 23) (S := (fun w' => BoxAt w.heap.size (.cells #[.int .i64 5, .int .i64 ((j : Int) + 1), .int .i64 (q : Nat), .string word, .slice A all.length c] 55) w' ∧ Below w.heap.size w w')) (ds := []) #[false, false, false, false, false, false, false, false, false, false, false, false, false, false, false, false, false, false, false, false, false, false, false] (by kernel_rfl) rfl rfl ⟨HBOX.out, below_drew HB.out⟩ (fun hHeld => ?_)
    refine pure_ (i := 0) (N := (some 65)) (v := ?_) (a' := ?_) #[true, false, false, false, false, false, false, false, false, false, false, false, false, false, false, false, false, false, false, false, false, false, false] rfl rfl (by kernel_rfl) (fun _ _ _ h => h) (Or.inl ⟨by rfl, ?_⟩) ?_ ?_
    rotate_left
    · intro w'
      go_simp
      with_reducible rfl
    rotate_left
    · simp only [Act.put, List.setIfInBounds_toArray, List.set_cons_zero, List.set_cons_succ]
      rfl
    refine pure_ (i := 1) (N := (some 66)) (v := ?_) (a' := ?_) #[true, true, false, false, false, false, false, false, false, false, false, false, false, false, false, false, false, false, false, false, false, false, false] rfl rfl (by kernel_rfl) (fun _ _ _ h => h) (Or.inl ⟨by rfl, ?_⟩) ?_ ?_
    rotate_left
    · intro w'
      go_simp
      with_reducible rfl
    rotate_left
    · simp only [Act.put, List.setIfInBounds_toArray, List.set_cons_zero, List.set_cons_succ]
      rfl
    refine take_ (i := 2) (N := (some 67)) (v := ?_) (a' := ?_) #[true, true, true, false, false, false, false, false, false, false, false, false, false, false, false, false, false, false, false, false, false, false, false] rfl rfl (by kernel_rfl) (fun _ _ _ h => h) (Or.inl ⟨by rfl, ?_⟩) hHeld ?_ ?_
    rotate_left
    · rintro w' ⟨s0, s1⟩
      have k2 : w'.cell? ⟨w.heap.size, 2, none⟩ = some (.int .i64 (q : Nat)) := by rw [Lib.cell_of_heap s0]; rfl
      go_simp
      with_reducible rfl
    rotate_left
    · simp only [Act.put, List.setIfInBounds_toArray, List.set_cons_zero, List.set_cons_succ]
      rfl
    refine pure_ (i := 3) (N := (some 68)) (v := ?_) (a' := ?_) #[true, true, true, true, false, false, false, false, false, false, false, false, false, false, false, false, false, false, false, false, false, false, false] rfl rfl (by kernel_rfl) (fun _ _ _ h => h) (Or.inl ⟨by rfl, ?_⟩) ?_ ?_
    rotate_left
    · intro w'
      go_simp
      with_reducible rfl
    rotate_left
    · simp only [Act.put, List.setIfInBounds_toArray, List.set_cons_zero, List.set_cons_succ]
      rfl
    refine pure_ (i := 4) (N := (some 69)) (v := ?_) (a' := ?_) #[true, true, true, true, true, false, false, false, false, false, false, false, false, false, false, false, false, false, false, false, false, false, false] rfl rfl (by kernel_rfl) (fun _ _ _ h => h) (Or.inl ⟨by rfl, ?_⟩) ?_ ?_
    rotate_left
    · intro w'
      go_simp
      with_reducible rfl
    rotate_left
    · simp only [Act.put, List.setIfInBounds_toArray, List.set_cons_zero, List.set_cons_succ]
      rfl
    refine pure_ (i := 5) (N := (some 70)) (v := ?_) (a' := ?_) #[true, true, true, true, true, true, false, false, false, false, false, false, false, false, false, false, false, false, false, false, false, false, false] rfl rfl (by kernel_rfl) (fun _ _ _ h => h) (Or.inl ⟨by rfl, ?_⟩) ?_ ?_
    rotate_left
    · intro w'
      go_simp
      with_reducible rfl
    rotate_left
    · simp only [Act.put, List.setIfInBounds_toArray, List.set_cons_zero, List.set_cons_succ]
      rfl
    refine pure_ (i := 6) (N := (some 71)) (v := ?_) (a' := ?_) #[true, true, true, true, true, true, true, false, false, false, false, false, false, false, false, false, false, false, false, false, false, false, false] rfl rfl (by kernel_rfl) (fun _ _ _ h => h) (Or.inl ⟨by rfl, ?_⟩) ?_ ?_
    rotate_left
    · intro w'
      go_simp
      with_reducible rfl
    rotate_left
    · simp only [Act.put, List.setIfInBounds_toArray, List.set_cons_zero, List.set_cons_succ]
      rfl
    refine pure_ (i := 7) (N := (some 72)) (v := ?_) (a' := ?_) #[true, true, true, true, true, true, true, true, false, false, false, false, false, false, false, false, false, false, false, false, false, false, false] rfl rfl (by kernel_rfl) (fun _ _ _ h => h) (Or.inl ⟨by rfl, ?_⟩) ?_ ?_
    rotate_left
    · intro w'
      go_simp
      with_reducible rfl
    rotate_left
    · simp only [Act.put, List.setIfInBounds_toArray, List.set_cons_zero, List.set_cons_succ]
      rfl
    refine pure_ (i := 8) (N := (some 73)) (v := ?_) (a' := ?_) #[true, true, true, true, true, true, true, true, true, false, false, false, false, false, false, false, false, false, false, false, false, false, false] rfl rfl (by kernel_rfl) (fun _ _ _ h => h) (Or.inl ⟨by rfl, ?_⟩) ?_ ?_
    rotate_left
    · intro w'
      go_simp
      with_reducible rfl
    rotate_left
    · simp only [Act.put, List.setIfInBounds_toArray, List.set_cons_zero, List.set_cons_succ]
      rfl
    refine pure_ (i := 9) (N := (some 74)) (v := ?_) (a' := ?_) #[true, true, true, true, true, true, true, true, true, true, false, false, false, false, false, false, false, false, false, false, false, false, false] rfl rfl (by kernel_rfl) (fun _ _ _ h => h) (Or.inl ⟨by rfl, ?_⟩) ?_ ?_
    rotate_left
    · intro w'
      go_simp
      with_reducible rfl
    rotate_left
    · simp only [Act.put, List.setIfInBounds_toArray, List.set_cons_zero, List.set_cons_succ]
      rfl
    refine take_ (i := 10) (N := (some 75)) (v := ?_) (a' := ?_) #[true, true, true, true, true, true, true, true, true, true, true, false, false, false, false, false, false, false, false, false, false, false, false] rfl rfl (by kernel_rfl) (fun _ _ _ h => h) (Or.inl ⟨by rfl, ?_⟩) hHeld ?_ ?_
    rotate_left
    · rintro w' ⟨s0, s1⟩
      have k2 : w'.cell? ⟨w.heap.size, 2, none⟩ = some (.int .i64 (q : Nat)) := by rw [Lib.cell_of_heap s0]; rfl
      go_simp
      with_reducible rfl
    rotate_left
    · simp only [Act.put, List.setIfInBounds_toArray, List.set_cons_zero, List.set_cons_succ]
      rfl
    refine pure_ (i := 11) (N := (some 76)) (v := ?_) (a' := ?_) #[true, true, true, true, true, true, true, true, true, true, true, true, false, false, false, false, false, false, false, false, false, false, false] rfl rfl (by kernel_rfl) (fun _ _ _ h => h) (Or.inl ⟨by rfl, ?_⟩) ?_ ?_
    rotate_left
    · intro w'
      go_simp
      with_reducible rfl
    rotate_left
    · simp only [Act.put, List.setIfInBounds_toArray, List.set_cons_zero, List.set_cons_succ]
      rfl
    refine pure_ (i := 12) (N := (some 77)) (v := ?_) (a' := ?_) #[true, true, true, true, true, true, true, true, true, true, true, true, true, false, false, false, false, false, false, false, false, false, false] rfl rfl (by kernel_rfl) (fun _ _ _ h => h) (Or.inl ⟨by rfl, ?_⟩) ?_ ?_
    rotate_left
    · intro w'
      go_simp
      with_reducible rfl
    rotate_left
    · simp only [Act.put, List.setIfInBounds_toArray, List.set_cons_zero, List.set_cons_succ]
      rfl
    refine pure_ (i := 13) (N := (some 78)) (v := ?_) (a' := ?_) #[true, true, true, true, true, true, true, true, true, true, true, true, true, true, false, false, false, false, false, false, false, false, false] rfl rfl (by kernel_rfl) (fun _ _ _ h => h) (Or.inl ⟨by rfl, ?_⟩) ?_ ?_
    rotate_left
    · intro w'
      go_simp
      with_reducible rfl
    rotate_left
    · simp only [Act.put, List.setIfInBounds_toArray, List.set_cons_zero, List.set_cons_succ]
      rfl
    refine pure_ (i := 14) (N := (some 79)) (v := ?_) (a' := ?_) #[true, true, true, true, true, true, true, true, true, true, true, true, true, true, true, false, false, false, false, false, false, false, false] rfl rfl (by kernel_rfl) (fun _ _ _ h => h) (Or.inl ⟨by rfl, ?_⟩) ?_ ?_
    rotate_left
    · intro w'
      go_simp
      with_reducible rfl
    rotate_left
    · simp only [Act.put, List.setIfInBounds_toArray, List.set_cons_zero, List.set_cons_succ]
      rfl
    refine pure_ (i := 15) (N := (some 80)) (v := ?_) (a' := ?_) #[true, true, true, true, true, true, true, true, true, true, true, true, true, true, true, true, false, false, false, false, false, false, false] rfl rfl (by kernel_rfl) (fun _ _ _ h => h) (Or.inl ⟨by rfl, ?_⟩) ?_ ?_
    rotate_left
    · intro w'
      go_simp
      with_reducible rfl
    rotate_left
    · simp only [Act.put, List.setIfInBounds_toArray, List.set_cons_zero, List.set_cons_succ]
      rfl
    refine pure_ (i := 16) (N := (some 81)) (v := ?_) (a' := ?_) #[true, true, true, true, true, true, true, true, true, true, true, true, true, true, true, true, true, false, false, false, false, false, false] rfl rfl (by kernel_rfl) (fun _ _ _ h => h) (Or.inl ⟨by rfl, ?_⟩) ?_ ?_
    rotate_left
    · intro w'
      go_simp
      with_reducible rfl
    rotate_left
    · simp only [Act.put, List.setIfInBounds_toArray, List.set_cons_zero, List.set_cons_succ]
      rfl
    refine take_ (i := 17) (N := (some 82)) (v := ?_) (a' := ?_) #[true, true, true, true, true, true, true, true, true, true, true, true, true, true, true, true, true, true, false, false, false, false, false] rfl rfl (by kernel_rfl) (fun _ _ _ h => h) (Or.inl ⟨by rfl, ?_⟩) hHeld ?_ ?_
    rotate_left
    · rintro w' ⟨s0, s1⟩
      have k2 : w'.cell? ⟨w.heap.size, 2, none⟩ = some (.int .i64 (q : Nat)) := by rw [Lib.cell_of_heap s0]; rfl
      go_simp
      with_reducible rfl
    rotate_left
    · simp only [Act.put, List.setIfInBounds_toArray, List.set_cons_zero, List.set_cons_succ]
      rfl
    refine pure_ (i := 18) (N := (some 83)) (v := ?_) (a' := ?_) #[true, true, true, true, true, true, true, true, true, true, true, true, true, true, true, true, true, true, true, false, false, false, false] rfl rfl (by kernel_rfl) (fun _ _ _ h => h) (Or.inl ⟨by rfl, ?_⟩) ?_ ?_
    rotate_left
    · intro w'
      go_simp
      with_reducible rfl
    rotate_left
    · simp only [Act.put, List.setIfInBounds_toArray, List.set_cons_zero, List.set_cons_succ]
      rfl
    refine pure_ (i := 19) (N := (some 84)) (v := ?_) (a' := ?_) #[true, true, true, true, true, true, true, true, true, true, true, true, true, true, true, true, true, true, true, true, false, false, false] rfl rfl (by kernel_rfl) (fun _ _ _ h => h) (Or.inl ⟨by rfl, ?_⟩) ?_ ?_
    rotate_left
    · intro w'
      go_simp
      with_reducible rfl
    rotate_left
    · simp only [Act.put, List.setIfInBounds_toArray, List.set_cons_zero, List.set_cons_succ]
      rfl
    refine pure_ (i := 20) (N := (some 85)) (v := ?_) (a' := ?_) #[true, true, true, true, true, true, true, true, true, true, true, true, true, true, true, true, true, true, true, true, true, false, false] rfl rfl (by kernel_rfl) (fun _ _ _ h => h) (Or.inl ⟨by rfl, ?_⟩) ?_ ?_
    rotate_left
    · intro w'
      go_simp
      with_reducible rfl
    rotate_left
    · simp only [Act.put, List.setIfInBounds_toArray, List.set_cons_zero, List.set_cons_succ]
      rfl
    refine pure_ (i := 21) (N := (some 4)) (v := ?_) (a' := ?_) #[true, true, true, true, true, true, true, true, true, true, true, true, true, true, true, true, true, true, true, true, true, true, false] rfl rfl (by kernel_rfl) (fun _ _ _ h => h) (Or.inl ⟨by rfl, ?_⟩) ?_ ?_
    rotate_left
    · intro w'
      go_simp
      with_reducible rfl
    rotate_left
    · simp only [Act.put, List.setIfInBounds_toArray, List.set_cons_zero, List.set_cons_succ]
      rfl
    refine pure_ (i := 22) (N := (some 5)) (v := ?_) (a' := ?_) #[true, true, true, true, true, true, true, true, true, true, true, true, true, true, true, true, true, true, true, true, true, true, true] rfl rfl (by kernel_rfl) (fun _ _ _ h => h) (Or.inl ⟨by rfl, ?_⟩) ?_ ?_
    rotate_left
    · intro w'
      go_simp
      with_reducible rfl
    rotate_left
    · simp only [Act.put, List.setIfInBounds_toArray, List.set_cons_zero, List.set_cons_succ]
      rfl
    refine done_ (by kernel_rfl) ?_
    go_wp2_with fail
    go_ret2
    exact ⟨⟨_, _, rfl, put_weak (by show ByteArray.size _ ≤ 100; (try simp only [ByteArray.size_append, ByteArray.size_extract, show (⟨#[46]⟩ : ByteArray).size = 1 from rfl]); omega) (by show ¬ ((5 : Int) = 0); decide) (by show ¬ ((5 : Int) = 1); decide) (by show ¬ ((5 : Int) = 2); decide)⟩, hHeld.2⟩
theorem put6_any (at_ n : Int) (word : ByteArray) (all : List Int) (A C : Option Addr) (c d : Nat) (ss : List ByteArray) (w : World) (hI : IsA w A all) (hC : WsA w C ss) (hR : RightP ss.length ⟨6, at_, n, word, all⟩) (hz : ∀ t ∈ ss, t.size ≤ 20) (hl : ss.length ≤ 8) (ha : all.length ≤ 5) (hw : word.size ≤ 20) : Calls Tryd.prog 28 #[pcV ⟨6, at_, n, word, all⟩ A c, .slice C ss.length d] w fun e w' => PutR ⟨6, at_, n, word, all⟩ ss w e w' := by
  unfold pcV
  have HB : Hid (Below w.heap.size w (w.alloc (.cells #[.int .i64 6, .int .i64 at_, .int .i64 n, .string word, .slice A all.length c] 55))) := Lib.hid ((Below.refl w.heap.size w).alloc (Nat.le_refl _) _)
  have HBOX : Hid (BoxAt w.heap.size (.cells #[.int .i64 6, .int .i64 at_, .int .i64 n, .string word, .slice A all.length c] 55) (w.alloc (.cells #[.int .i64 6, .int .i64 at_, .int .i64 n, .string word, .slice A all.length c] 55))) := Lib.hid (heap_alloc_last w _)
  have HI := Lib.hid hI
  have HC := Lib.hid hC
  have HZ := Lib.hid hz
  clear hI hC hz
  have hr := hR
  simp only [RightP] at hr
  have hat : 1 ≤ at_ ∧ at_ ≤ (ss.length : Int) := by
    rcases hr with h | h | h
    · exact absurd h.1 (by decide)
    · exact absurd h.1 (by decide)
    · exact h.2.2.1
  have hn : 1 ≤ n ∧ n ≤ 1000 := by
    rcases hr with h | h | h
    · exact absurd h.1 (by decide)
    · exact absurd h.1 (by decide)
    · have h4 := h.2.2.2; simp at h4; exact h4
  clear hr hR
  obtain ⟨j, rfl⟩ : ∃ j : Nat, at_ = (j : Int) + 1 := ⟨(at_ - 1).toNat, by omega⟩
  have hj : j < ss.length := by omega
  obtain ⟨b, rfl, c0⟩ := (HC.out.later HB.out).2 j hj
  have ht20 := HZ.out ss[j] (List.getElem_mem _)
  obtain ⟨t, ht⟩ : ∃ t, ss[j] = t := ⟨_, rfl⟩
  rw [ht] at c0 ht20
  have HTT := Lib.hid ht
  clear ht
  have j1 : (j : Int) + 1 - 1 = (j : Int) := by omega
  have j2 : IntKind.i64.wrap (j : Int) = (j : Int) := IntWalk.i64_in _ ⟨by omega, by omega⟩
  have j3 : IntKind.i64.wrap ((j : Int) + 1 - 1) = (j : Int) := by rw [j1]; exact j2
  have j4 : decide ((j : Int) < (ss.length : Int)) = true := bd (by omega)
  have j5 : decide (j < ss.length) = true := bd hj
  obtain ⟨q, rfl⟩ : ∃ q : Nat, n = (q : Int) := ⟨n.toNat, by omega⟩
  go_enter Tryd.func28, Tryd.ntmps28
  go_upto_region 21 with fail
  generalize w.alloc (.cells #[.int .i64 6, .int .i64 ((j : Int) + 1), .int .i64 (q : Nat), .string word, .slice A all.length c] 55) = w0 at HB HBOX c0 ⊢
  by_cases hq : q < t.size
  · have u1 : ((t.size : Int) < (q : Int)) = False := eq_false (by omega)
    have u2 : (t.size < q) = False := eq_false (by omega)
    have u3 : ((q : Int) < (t.size : Int)) = True := eq_true (by omega)
    have u4 : (q < t.size) = True := eq_true hq
    have u5 : (q ≤ t.size) = True := eq_true (by omega)
    have u6 : ((q : Int) ≤ (t.size : Int)) = True := eq_true (by omega)
    have u7 : decide (q < t.size) = true := bd hq
    have u8 : decide ((q : Int) < (t.size : Int)) = true := bd (by omega)
    obtain ⟨dd, hdd⟩ : ∃ dd : Nat, t.size = dd + q := ⟨t.size - q, by omega⟩
    have v1 : (t.size : Int) - (q : Int) = (dd : Int) := by omega
    have v2 : IntKind.i64.wrap (dd : Int) = (dd : Int) := IntWalk.i64_in _ ⟨by omega, by omega⟩
    have v3 : IntKind.i64.wrap ((t.size : Int) - (q : Int)) = (dd : Int) := by rw [v1]; exact v2
    have v4 : ((0 : Int) < (dd : Int)) = True := eq_true (by omega)
    have v5 : (0 < dd) = True := eq_true (by omega)
    have v6 : (dd ≤ t.size) = True := eq_true (by omega)
    have v7 : ((dd : Int) ≤ (t.size : Int)) = True := eq_true (by omega)
    have v8 : (t.size < dd) = False := eq_false (by omega)
    have HDD := Lib.hid hdd
    clear hdd
    have z14 : dd + 1 ≤ 9223372036854775807 := by omega
    have z14a := eq_true z14
    have z14b : decide (dd + 1 ≤ 9223372036854775807) = true := decide_eq_true z14
    have z14c : (9223372036854775807 < dd + 1) = False := eq_false (Nat.not_lt.2 z14)
    have z15 : dd + 1 + (t.size - dd) ≤ 9223372036854775807 := by omega
    have z15a := eq_true z15
    have z15b : decide (dd + 1 + (t.size - dd) ≤ 9223372036854775807) = true := decide_eq_true z15
    have z15c : (9223372036854775807 < dd + 1 + (t.size - dd)) = False := eq_false (Nat.not_lt.2 z15)
    have z19 : (t.extract 0 dd).size + 1 ≤ 9223372036854775807 := by simp; omega
    have z19a := eq_true z19
    have z19b : decide ((t.extract 0 dd).size + 1 ≤ 9223372036854775807) = true := decide_eq_true z19
    have z19c : (9223372036854775807 < (t.extract 0 dd).size + 1) = False := eq_false (Nat.not_lt.2 z19)
    have z20 : (t.extract 0 dd ++ (⟨#[46]⟩ : ByteArray)).size + (t.extract dd t.size).size ≤ 9223372036854775807 := by rw [ByteArray.size_append]; show _ + 1 + _ ≤ _; simp; omega
    have z20a := eq_true z20
    have z20b : decide ((t.extract 0 dd ++ (⟨#[46]⟩ : ByteArray)).size + (t.extract dd t.size).size ≤ 9223372036854775807) = true := decide_eq_true z20
    have z20c : (9223372036854775807 < (t.extract 0 dd ++ (⟨#[46]⟩ : ByteArray)).size + (t.extract dd t.size).size) = False := eq_false (Nat.not_lt.2 z20)
    refine start_ (n := 25) (S := (fun w' => BoxAt w.heap.size (.cells #[.int .i64 6, .int .i64 ((j : Int) + 1), .int .i64 (q : Nat), .string word, .slice A all.length c] 55) w' ∧ Below w.heap.size w w')) (ds := []) #[false, false, false, false, false, false, false, false, false, false, false, false, false, false, false, false, false, false, false, false, false, false, false, false, false] (by kernel_rfl) rfl rfl ⟨HBOX.out, below_drew HB.out⟩ (fun hHeld => ?_)
    refine pure_ (i := 0) (N := (some 88)) (v := ?_) (a' := ?_) #[true, false, false, false, false, false, false, false, false, false, false, false, false, false, false, false, false, false, false, false, false, false, false, false, false] rfl rfl (by kernel_rfl) (fun _ _ _ h => h) (Or.inl ⟨by rfl, ?_⟩) ?_ ?_
    rotate_left
    · intro w'
      go_simp
      with_reducible rfl
    rotate_left
    · simp only [Act.put, List.setIfInBounds_toArray, List.set_cons_zero, List.set_cons_succ]
      rfl
    refine pure_ (i := 1) (N := (some 89)) (v := ?_) (a' := ?_) #[true, true, false, false, false, false, false, false, false, false, false, false, false, false, false, false, false, false, false, false, false, false, false, false, false] rfl rfl (by kernel_rfl) (fun _ _ _ h => h) (Or.inl ⟨by rfl, ?_⟩) ?_ ?_
    rotate_left
    · intro w'
      go_simp
      with_reducible rfl
    rotate_left
    · simp only [Act.put, List.setIfInBounds_toArray, List.set_cons_zero, List.set_cons_succ]
      rfl
    refine pure_ (i := 2) (N := (some 90)) (v := ?_) (a' := ?_) #[true, true, true, false, false, false, false, false, false, false, false, false, false, false, false, false, false, false, false, false, false, false, false, false, false] rfl rfl (by kernel_rfl) (fun _ _ _ h => h) (Or.inl ⟨by rfl, ?_⟩) ?_ ?_
    rotate_left
    · intro w'
      go_simp
      with_reducible rfl
    rotate_left
    · simp only [Act.put, List.setIfInBounds_toArray, List.set_cons_zero, List.set_cons_succ]
      rfl
    refine pure_ (i := 3) (N := (some 91)) (v := ?_) (a' := ?_) #[true, true, true, true, false, false, false, false, false, false, false, false, false, false, false, false, false, false, false, false, false, false, false, false, false] rfl rfl (by kernel_rfl) (fun _ _ _ h => h) (Or.inl ⟨by rfl, ?_⟩) ?_ ?_
    rotate_left
    · intro w'
      go_simp
      with_reducible rfl
    rotate_left
    · simp only [Act.put, List.setIfInBounds_toArray, List.set_cons_zero, List.set_cons_succ]
      rfl
    refine take_ (i := 4) (N := (some 92)) (v := ?_) (a' := ?_) #[true, true, true, true, true, false, false, false, false, false, false, false, false, false, false, false, false, false, false, false, false, false, false, false, false] rfl rfl (by kernel_rfl) (fun _ _ _ h => h) (Or.inl ⟨by rfl, ?_⟩) hHeld ?_ ?_
    rotate_left
    · rintro w' ⟨s0, s1⟩
      have k2 : w'.cell? ⟨w.heap.size, 2, none⟩ = some (.int .i64 (q : Nat)) := by rw [Lib.cell_of_heap s0]; rfl
      go_simp
      with_reducible rfl
    rotate_left
    · simp only [Act.put, List.setIfInBounds_toArray, List.set_cons_zero, List.set_cons_succ]
      rfl
    refine pure_ (i := 5) (N := (some 93)) (v := ?_) (a' := ?_) #[true, true, true, true, true, true, false, false, false, false, false, false, false, false, false, false, false, false, false, false, false, false, false, false, false] rfl rfl (by kernel_rfl) (fun _ _ _ h => h) (Or.inl ⟨by rfl, ?_⟩) ?_ ?_
    rotate_left
    · intro w'
      go_simp
      with_reducible rfl
    rotate_left
    · simp only [Act.put, List.setIfInBounds_toArray, List.set_cons_zero, List.set_cons_succ]
      rfl
    refine pure_ (i := 6) (N := (some 94)) (v := ?_) (a' := ?_) #[true, true, true, true, true, true, true, false, false, false, false, false, false, false, false, false, false, false, false, false, false, false, false, false, false] rfl rfl (by kernel_rfl) (fun _ _ _ h => h) (Or.inl ⟨by rfl, ?_⟩) ?_ ?_
    rotate_left
    · intro w'
      go_simp
      with_reducible rfl
    rotate_left
    · simp only [Act.put, List.setIfInBounds_toArray, List.set_cons_zero, List.set_cons_succ]
      rfl
    refine pure_ (i := 7) (N := (some 95)) (v := ?_) (a' := ?_) #[true, true, true, true, true, true, true, true, false, false, false, false, false, false, false, false, false, false, false, false, false, false, false, false, false] rfl rfl (by kernel_rfl) (fun _ _ _ h => h) (Or.inl ⟨by rfl, ?_⟩) ?_ ?_
    rotate_left
    · intro w'
      go_simp
      with_reducible rfl
    rotate_left
    · simp only [Act.put, List.setIfInBounds_toArray, List.set_cons_zero, List.set_cons_succ]
      rfl
    refine pure_ (i := 8) (N := (some 96)) (v := ?_) (a' := ?_) #[true, true, true, true, true, true, true, true, true, false, false, false, false, false, false, false, false, false, false, false, false, false, false, false, false] rfl rfl (by kernel_rfl) (fun _ _ _ h => h) (Or.inl ⟨by rfl, ?_⟩) ?_ ?_
    rotate_left
    · intro w'
      go_simp
      with_reducible rfl
    rotate_left
    · simp only [Act.put, List.setIfInBounds_toArray, List.set_cons_zero, List.set_cons_succ]
      rfl
    refine pure_ (i := 9) (N := (some 97)) (v := ?_) (a' := ?_) #[true, true, true, true, true, true, true, true, true, true, false, false, false, false, false, false, false, false, false, false, false, false, false, false, false] rfl rfl (by kernel_rfl) (fun _ _ _ h => h) (Or.inl ⟨by rfl, ?_⟩) ?_ ?_
    rotate_left
    · intro w'
      go_simp
      with_reducible rfl
    rotate_left
    · simp only [Act.put, List.setIfInBounds_toArray, List.set_cons_zero, List.set_cons_succ]
      rfl
    refine pure_ (i := 10) (N := (some 98)) (v := ?_) (a' := ?_) #[true, true, true, true, true, true, true, true, true, true, true, false, false, false, false, false, false, false, false, false, false, false, false, false, false] rfl rfl (by kernel_rfl) (fun _ _ _ h => h) (Or.inl ⟨by rfl, ?_⟩) ?_ ?_
    rotate_left
    · intro w'
      go_simp
      with_reducible rfl
    rotate_left
    · simp only [Act.put, List.setIfInBounds_toArray, List.set_cons_zero, List.set_cons_succ]
      rfl
    refine pure_ (i := 11) (N := (some 99)) (v := ?_) (a' := ?_) #[true, true, true, true, true, true, true, true, true, true, true, true, false, false, false, false, false, false, false, false, false, false, false, false, false] rfl rfl (by kernel_rfl) (fun _ _ _ h => h) (Or.inl ⟨by rfl, ?_⟩) ?_ ?_
    rotate_left
    · intro w'
      go_simp
      with_reducible rfl
    rotate_left
    · simp only [Act.put, List.setIfInBounds_toArray, List.set_cons_zero, List.set_cons_succ]
      rfl
    refine pure_ (i := 12) (N := (some 100)) (v := ?_) (a' := ?_) #[true, true, true, true, true, true, true, true, true, true, true, true, true, false, false, false, false, false, false, false, false, false, false, false, false] rfl rfl (by kernel_rfl) (fun _ _ _ h => h) (Or.inl ⟨by rfl, ?_⟩) ?_ ?_
    rotate_left
    · intro w'
      go_simp
      with_reducible rfl
    rotate_left
    · simp only [Act.put, List.setIfInBounds_toArray, List.set_cons_zero, List.set_cons_succ]
      rfl
    refine take_ (i := 13) (N := (some 101)) (v := ?_) (a' := ?_) #[true, true, true, true, true, true, true, true, true, true, true, true, true, true, false, false, false, false, false, false, false, false, false, false, false] rfl rfl (by kernel_rfl) (fun _ _ _ h => h) (Or.inl ⟨by rfl, ?_⟩) hHeld ?_ ?_
    rotate_left
    · rintro w' ⟨s0, s1⟩
      have k2 : w'.cell? ⟨w.heap.size, 2, none⟩ = some (.int .i64 (q : Nat)) := by rw [Lib.cell_of_heap s0]; rfl
      go_simp
      with_reducible rfl
    rotate_left
    · simp only [Act.put, List.setIfInBounds_toArray, List.set_cons_zero, List.set_cons_succ]
      rfl
    refine pure_ (i := 14) (N := (some 102)) (v := ?_) (a' := ?_) #[true, true, true, true, true, true, true, true, true, true, true, true, true, true, true, false, false, false, false, false, false, false, false, false, false] rfl rfl (by kernel_rfl) (fun _ _ _ h => h) (Or.inl ⟨by rfl, ?_⟩) ?_ ?_
    rotate_left
    · intro w'
      go_simp
      with_reducible rfl
    rotate_left
    · simp only [Act.put, List.setIfInBounds_toArray, List.set_cons_zero, List.set_cons_succ]
      rfl
    refine pure_ (i := 15) (N := (some 103)) (v := ?_) (a' := ?_) #[true, true, true, true, true, true, true, true, true, true, true, true, true, true, true, true, false, false, false, false, false, false, false, false, false] rfl rfl (by kernel_rfl) (fun _ _ _ h => h) (Or.inl ⟨by rfl, ?_⟩) ?_ ?_
    rotate_left
    · intro w'
      go_simp
      with_reducible rfl
    rotate_left
    · simp only [Act.put, List.setIfInBounds_toArray, List.set_cons_zero, List.set_cons_succ]
      rfl
    refine pure_ (i := 16) (N := (some 104)) (v := ?_) (a' := ?_) #[true, true, true, true, true, true, true, true, true, true, true, true, true, true, true, true, true, false, false, false, false, false, false, false, false] rfl rfl (by kernel_rfl) (fun _ _ _ h => h) (Or.inl ⟨by rfl, ?_⟩) ?_ ?_
    rotate_left
    · intro w'
      go_simp
      with_reducible rfl
    rotate_left
    · simp only [Act.put, List.setIfInBounds_toArray, List.set_cons_zero, List.set_cons_succ]
      rfl
    refine pure_ (i := 17) (N := (some 105)) (v := ?_) (a' := ?_) #[true, true, true, true, true, true, true, true, true, true, true, true, true, true, true, true, true, true, false, false, false, false, false, false, false] rfl rfl (by kernel_rfl) (fun _ _ _ h => h) (Or.inl ⟨by rfl, ?_⟩) ?_ ?_
    rotate_left
    · intro w'
      go_simp
      with_reducible rfl
    rotate_left
    · simp only [Act.put, List.setIfInBounds_toArray, List.set_cons_zero, List.set_cons_succ]
      rfl
    refine pure_ (i := 18) (N := (some 106)) (v := ?_) (a' := ?_) #[true, true, true, true, true, true, true, true, true, true, true, true, true, true, true, true, true, true, true, false, false, false, false, false, false] rfl rfl (by kernel_rfl) (fun _ _ _ h => h) (Or.inl ⟨by rfl, ?_⟩) ?_ ?_
    rotate_left
    · intro w'
      go_simp
      with_reducible rfl
    rotate_left
    · simp only [Act.put, List.setIfInBounds_toArray, List.set_cons_zero, List.set_cons_succ]
      rfl
    refine take_ (i := 19) (N := (some 107)) (v := ?_) (a' := ?_) #[true, true, true, true, true, true, true, true, true, true, true, true, true, true, true, true, true, true, true, true, false, false, false, false, false] rfl rfl (by kernel_rfl) (fun _ _ _ h => h) (Or.inl ⟨by rfl, ?_⟩) hHeld ?_ ?_
    rotate_left
    · rintro w' ⟨s0, s1⟩
      have k2 : w'.cell? ⟨w.heap.size, 2, none⟩ = some (.int .i64 (q : Nat)) := by rw [Lib.cell_of_heap s0]; rfl
      go_simp
      with_reducible rfl
    rotate_left
    · simp only [Act.put, List.setIfInBounds_toArray, List.set_cons_zero, List.set_cons_succ]
      rfl
    refine pure_ (i := 20) (N := (some 108)) (v := ?_) (a' := ?_) #[true, true, true, true, true, true, true, true, true, true, true, true, true, true, true, true, true, true, true, true, true, false, false, false, false] rfl rfl (by kernel_rfl) (fun _ _ _ h => h) (Or.inl ⟨by rfl, ?_⟩) ?_ ?_
    rotate_left
    · intro w'
      go_simp
      with_reducible rfl
    rotate_left
    · simp only [Act.put, List.setIfInBounds_toArray, List.set_cons_zero, List.set_cons_succ]
      rfl
    refine pure_ (i := 21) (N := (some 109)) (v := ?_) (a' := ?_) #[true, true, true, true, true, true, true, true, true, true, true, true, true, true, true, true, true, true, true, true, true, true, false, false, false] rfl rfl (by kernel_rfl) (fun _ _ _ h => h) (Or.inl ⟨by rfl, ?_⟩) ?_ ?_
    rotate_left
    · intro w'
      go_simp
      with_reducible rfl
    rotate_left
    · simp only [Act.put, List.setIfInBounds_toArray, List.set_cons_zero, List.set_cons_succ]
      rfl
    refine pure_ (i := 22) (N := (some 110)) (v := ?_) (a' := ?_) #[true, true, true, true, true, true, true, true, true, true, true, true, true, true, true, true, true, true, true, true, true, true, true, false, false] rfl rfl (by kernel_rfl) (fun _ _ _ h => h) (Or.inl ⟨by rfl, ?_⟩) ?_ ?_
    rotate_left
    · intro w'
      go_simp
      with_reducible rfl
    rotate_left
    · simp only [Act.put, List.setIfInBounds_toArray, List.set_cons_zero, List.set_cons_succ]
      rfl
    refine pure_ (i := 23) (N := (some 4)) (v := ?_) (a' := ?_) #[true, true, true, true, true, true, true, true, true, true, true, true, true, true, true, true, true, true, true, true, true, true, true, true, false] rfl rfl (by kernel_rfl) (fun _ _ _ h => h) (Or.inl ⟨by rfl, ?_⟩) ?_ ?_
    rotate_left
    · intro w'
      go_simp
      with_reducible rfl
    rotate_left
    · simp only [Act.put, List.setIfInBounds_toArray, List.set_cons_zero, List.set_cons_succ]
      rfl
    refine pure_ (i := 24) (N := (some 5)) (v := ?_) (a' := ?_) #[true, true, true, true, true, true, true, true, true, true, true, true, true, true, true, true, true, true, true, true, true, true, true, true, true] rfl rfl (by kernel_rfl) (fun _ _ _ h => h) (Or.inl ⟨by rfl, ?_⟩) ?_ ?_
    rotate_left
    · intro w'
      go_simp
      with_reducible rfl
    rotate_left
    · simp only [Act.put, List.setIfInBounds_toArray, List.set_cons_zero, List.set_cons_succ]
      rfl
    refine done_ (by kernel_rfl) ?_
    go_wp2_with fail
    go_ret2
    exact ⟨⟨_, _, rfl, put_weak (by show ByteArray.size _ ≤ 100; (try simp only [ByteArray.size_append, ByteArray.size_extract, show (⟨#[46]⟩ : ByteArray).size = 1 from rfl]); omega) (by show ¬ ((6 : Int) = 0); decide) (by show ¬ ((6 : Int) = 1); decide) (by show ¬ ((6 : Int) = 2); decide)⟩, hHeld.2⟩
  · have u1 : ((q : Int) < (t.size : Int)) = False := eq_false (by omega)
    have u2 : (q < t.size) = False := eq_false hq
    have u7 : decide (q < t.size) = false := nd hq
    have u8 : decide ((q : Int) < (t.size : Int)) = false := nd (by omega)
    obtain ⟨ee, hee⟩ : ∃ ee : Int, (t.size : Int) - (q : Int) = ee := ⟨_, rfl⟩
    have v2 : IntKind.i64.wrap ee = ee := IntWalk.i64_in _ ⟨by omega, by omega⟩
    have v3 : IntKind.i64.wrap ((t.size : Int) - (q : Int)) = ee := by rw [hee]; exact v2
    have v4 : ((0 : Int) < ee) = False := eq_false (by omega)
    have z16 : 1 + t.size ≤ 9223372036854775807 := by omega
    have z16a := eq_true z16
    have z16b : decide (1 + t.size ≤ 9223372036854775807) = true := decide_eq_true z16
    have z16c : (9223372036854775807 < 1 + t.size) = False := eq_false (Nat.not_lt.2 z16)
    have z17 : 0 + 1 ≤ 9223372036854775807 := by omega
    have z17a := eq_true z17
    have z17b : decide (0 + 1 ≤ 9223372036854775807) = true := decide_eq_true z17
    have z17c : (9223372036854775807 < 0 + 1) = False := eq_false (Nat.not_lt.2 z17)
    have z18 : 0 + 1 + t.size ≤ 9223372036854775807 := by omega
    have z18a := eq_true z18
    have z18b : decide (0 + 1 + t.size ≤ 9223372036854775807) = true := decide_eq_true z18
    have z18c : (9223372036854775807 < 0 + 1 + t.size) = False := eq_false (Nat.not_lt.2 z18)
    have z21 : (t.extract 0 0).size + 1 ≤ 9223372036854775807 := by simp
    have z21a := eq_true z21
    have z21b : decide ((t.extract 0 0).size + 1 ≤ 9223372036854775807) = true := decide_eq_true z21
    have z21c : (9223372036854775807 < (t.extract 0 0).size + 1) = False := eq_false (Nat.not_lt.2 z21)
    have z22 : (t.extract 0 0 ++ (⟨#[46]⟩ : ByteArray)).size + t.size ≤ 9223372036854775807 := by rw [ByteArray.size_append]; show _ + 1 + _ ≤ _; simp; omega
    have z22a := eq_true z22
    have z22b : decide ((t.extract 0 0 ++ (⟨#[46]⟩ : ByteArray)).size + t.size ≤ 9223372036854775807) = true := decide_eq_true z22
    have z22c : (9223372036854775807 < (t.extract 0 0 ++ (⟨#[46]⟩ : ByteArray)).size + t.size) = False := eq_false (Nat.not_lt.2 z22)
    refine start_ (n := 25) (S := (fun w' => BoxAt w.heap.size (.cells #[.int .i64 6, .int .i64 ((j : Int) + 1), .int .i64 (q : Nat), .string word, .slice A all.length c] 55) w' ∧ Below w.heap.size w w')) (ds := []) #[false, false, false, false, false, false, false, false, false, false, false, false, false, false, false, false, false, false, false, false, false, false, false, false, false] (by kernel_rfl) rfl rfl ⟨HBOX.out, below_drew HB.out⟩ (fun hHeld => ?_)
    refine pure_ (i := 0) (N := (some 88)) (v := ?_) (a' := ?_) #[true, false, false, false, false, false, false, false, false, false, false, false, false, false, false, false, false, false, false, false, false, false, false, false, false] rfl rfl (by kernel_rfl) (fun _ _ _ h => h) (Or.inl ⟨by rfl, ?_⟩) ?_ ?_
    rotate_left
    · intro w'
      go_simp
      with_reducible rfl
    rotate_left
    · simp only [Act.put, List.setIfInBounds_toArray, List.set_cons_zero, List.set_cons_succ]
      rfl
    refine pure_ (i := 1) (N := (some 89)) (v := ?_) (a' := ?_) #[true, true, false, false, false, false, false, false, false, false, false, false, false, false, false, false, false, false, false, false, false, false, false, false, false] rfl rfl (by kernel_rfl) (fun _ _ _ h => h) (Or.inl ⟨by rfl, ?_⟩) ?_ ?_
    rotate_left
    · intro w'
      go_simp
      with_reducible rfl
    rotate_left
    · simp only [Act.put, List.setIfInBounds_toArray, List.set_cons_zero, List.set_cons_succ]
      rfl
    refine pure_ (i := 2) (N := (some 90)) (v := ?_) (a' := ?_) #[true, true, true, false, false, false, false, false, false, false, false, false, false, false, false, false, false, false, false, false, false, false, false, false, false] rfl rfl (by kernel_rfl) (fun _ _ _ h => h) (Or.inl ⟨by rfl, ?_⟩) ?_ ?_
    rotate_left
    · intro w'
      go_simp
      with_reducible rfl
    rotate_left
    · simp only [Act.put, List.setIfInBounds_toArray, List.set_cons_zero, List.set_cons_succ]
      rfl
    refine pure_ (i := 3) (N := (some 91)) (v := ?_) (a' := ?_) #[true, true, true, true, false, false, false, false, false, false, false, false, false, false, false, false, false, false, false, false, false, false, false, false, false] rfl rfl (by kernel_rfl) (fun _ _ _ h => h) (Or.inl ⟨by rfl, ?_⟩) ?_ ?_
    rotate_left
    · intro w'
      go_simp
      with_reducible rfl
    rotate_left
    · simp only [Act.put, List.setIfInBounds_toArray, List.set_cons_zero, List.set_cons_succ]
      rfl
    refine take_ (i := 4) (N := (some 92)) (v := ?_) (a' := ?_) #[true, true, true, true, true, false, false, false, false, false, false, false, false, false, false, false, false, false, false, false, false, false, false, false, false] rfl rfl (by kernel_rfl) (fun _ _ _ h => h) (Or.inl ⟨by rfl, ?_⟩) hHeld ?_ ?_
    rotate_left
    · rintro w' ⟨s0, s1⟩
      have k2 : w'.cell? ⟨w.heap.size, 2, none⟩ = some (.int .i64 (q : Nat)) := by rw [Lib.cell_of_heap s0]; rfl
      go_simp
      with_reducible rfl
    rotate_left
    · simp only [Act.put, List.setIfInBounds_toArray, List.set_cons_zero, List.set_cons_succ]
      rfl
    refine pure_ (i := 5) (N := (some 93)) (v := ?_) (a' := ?_) #[true, true, true, true, true, true, false, false, false, false, false, false, false, false, false, false, false, false, false, false, false, false, false, false, false] rfl rfl (by kernel_rfl) (fun _ _ _ h => h) (Or.inl ⟨by rfl, ?_⟩) ?_ ?_
    rotate_left
    · intro w'
      go_simp
      with_reducible rfl
    rotate_left
    · simp only [Act.put, List.setIfInBounds_toArray, List.set_cons_zero, List.set_cons_succ]
      rfl
    refine pure_ (i := 6) (N := (some 94)) (v := ?_) (a' := ?_) #[true, true, true, true, true, true, true, false, false, false, false, false, false, false, false, false, false, false, false, false, false, false, false, false, false] rfl rfl (by kernel_rfl) (fun _ _ _ h => h) (Or.inl ⟨by rfl, ?_⟩) ?_ ?_
    rotate_left
    · intro w'
      go_simp
      with_reducible rfl
    rotate_left
    · simp only [Act.put, List.setIfInBounds_toArray, List.set_cons_zero, List.set_cons_succ]
      rfl
    refine pure_ (i := 7) (N := (some 95)) (v := ?_) (a' := ?_) #[true, true, true, true, true, true, true, true, false, false, false, false, false, false, false, false, false, false, false, false, false, false, false, false, false] rfl rfl (by kernel_rfl) (fun _ _ _ h => h) (Or.inl ⟨by rfl, ?_⟩) ?_ ?_
    rotate_left
    · intro w'
      go_simp
      with_reducible rfl
    rotate_left
    · simp only [Act.put, List.setIfInBounds_toArray, List.set_cons_zero, List.set_cons_succ]
      rfl
    refine pure_ (i := 8) (N := (some 96)) (v := ?_) (a' := ?_) #[true, true, true, true, true, true, true, true, true, false, false, false, false, false, false, false, false, false, false, false, false, false, false, false, false] rfl rfl (by kernel_rfl) (fun _ _ _ h => h) (Or.inl ⟨by rfl, ?_⟩) ?_ ?_
    rotate_left
    · intro w'
      go_simp
      with_reducible rfl
    rotate_left
    · simp only [Act.put, List.setIfInBounds_toArray, List.set_cons_zero, List.set_cons_succ]
      rfl
    refine pure_ (i := 9) (N := (some 97)) (v := ?_) (a' := ?_) #[true, true, true, true, true, true, true, true, true, true, false, false, false, false, false, false, false, false, false, false, false, false, false, false, false] rfl rfl (by kernel_rfl) (fun _ _ _ h => h) (Or.inl ⟨by rfl, ?_⟩) ?_ ?_
    rotate_left
    · intro w'
      go_simp
      with_reducible rfl
    rotate_left
    · simp only [Act.put, List.setIfInBounds_toArray, List.set_cons_zero, List.set_cons_succ]
      rfl
    refine pure_ (i := 10) (N := (some 98)) (v := ?_) (a' := ?_) #[true, true, true, true, true, true, true, true, true, true, true, false, false, false, false, false, false, false, false, false, false, false, false, false, false] rfl rfl (by kernel_rfl) (fun _ _ _ h => h) (Or.inl ⟨by rfl, ?_⟩) ?_ ?_
    rotate_left
    · intro w'
      go_simp
      with_reducible rfl
    rotate_left
    · simp only [Act.put, List.setIfInBounds_toArray, List.set_cons_zero, List.set_cons_succ]
      rfl
    refine pure_ (i := 11) (N := (some 99)) (v := ?_) (a' := ?_) #[true, true, true, true, true, true, true, true, true, true, true, true, false, false, false, false, false, false, false, false, false, false, false, false, false] rfl rfl (by kernel_rfl) (fun _ _ _ h => h) (Or.inl ⟨by rfl, ?_⟩) ?_ ?_
    rotate_left
    · intro w'
      go_simp
      with_reducible rfl
    rotate_left
    · simp only [Act.put, List.setIfInBounds_toArray, List.set_cons_zero, List.set_cons_succ]
      rfl
    refine pure_ (i := 12) (N := (some 100)) (v := ?_) (a' := ?_) #[true, true, true, true, true, true, true, true, true, true, true, true, true, false, false, false, false, false, false, false, false, false, false, false, false] rfl rfl (by kernel_rfl) (fun _ _ _ h => h) (Or.inl ⟨by rfl, ?_⟩) ?_ ?_
    rotate_left
    · intro w'
      go_simp
      with_reducible rfl
    rotate_left
    · simp only [Act.put, List.setIfInBounds_toArray, List.set_cons_zero, List.set_cons_succ]
      rfl
    refine take_ (i := 13) (N := (some 101)) (v := ?_) (a' := ?_) #[true, true, true, true, true, true, true, true, true, true, true, true, true, true, false, false, false, false, false, false, false, false, false, false, false] rfl rfl (by kernel_rfl) (fun _ _ _ h => h) (Or.inl ⟨by rfl, ?_⟩) hHeld ?_ ?_
    rotate_left
    · rintro w' ⟨s0, s1⟩
      have k2 : w'.cell? ⟨w.heap.size, 2, none⟩ = some (.int .i64 (q : Nat)) := by rw [Lib.cell_of_heap s0]; rfl
      go_simp
      with_reducible rfl
    rotate_left
    · simp only [Act.put, List.setIfInBounds_toArray, List.set_cons_zero, List.set_cons_succ]
      rfl
    refine pure_ (i := 14) (N := (some 102)) (v := ?_) (a' := ?_) #[true, true, true, true, true, true, true, true, true, true, true, true, true, true, true, false, false, false, false, false, false, false, false, false, false] rfl rfl (by kernel_rfl) (fun _ _ _ h => h) (Or.inl ⟨by rfl, ?_⟩) ?_ ?_
    rotate_left
    · intro w'
      go_simp
      with_reducible rfl
    rotate_left
    · simp only [Act.put, List.setIfInBounds_toArray, List.set_cons_zero, List.set_cons_succ]
      rfl
    refine pure_ (i := 15) (N := (some 103)) (v := ?_) (a' := ?_) #[true, true, true, true, true, true, true, true, true, true, true, true, true, true, true, true, false, false, false, false, false, false, false, false, false] rfl rfl (by kernel_rfl) (fun _ _ _ h => h) (Or.inl ⟨by rfl, ?_⟩) ?_ ?_
    rotate_left
    · intro w'
      go_simp
      with_reducible rfl
    rotate_left
    · simp only [Act.put, List.setIfInBounds_toArray, List.set_cons_zero, List.set_cons_succ]
      rfl
    refine pure_ (i := 16) (N := (some 104)) (v := ?_) (a' := ?_) #[true, true, true, true, true, true, true, true, true, true, true, true, true, true, true, true, true, false, false, false, false, false, false, false, false] rfl rfl (by kernel_rfl) (fun _ _ _ h => h) (Or.inl ⟨by rfl, ?_⟩) ?_ ?_
    rotate_left
    · intro w'
      go_simp
      with_reducible rfl
    rotate_left
    · simp only [Act.put, List.setIfInBounds_toArray, List.set_cons_zero, List.set_cons_succ]
      rfl
    refine pure_ (i := 17) (N := (some 105)) (v := ?_) (a' := ?_) #[true, true, true, true, true, true, true, true, true, true, true, true, true, true, true, true, true, true, false, false, false, false, false, false, false] rfl rfl (by kernel_rfl) (fun _ _ _ h => h) (Or.inl ⟨by rfl, ?_⟩) ?_ ?_
    rotate_left
    · intro w'
      go_simp
      with_reducible rfl
    rotate_left
    · simp only [Act.put, List.setIfInBounds_toArray, List.set_cons_zero, List.set_cons_succ]
      rfl
    refine pure_ (i := 18) (N := (some 106)) (v := ?_) (a' := ?_) #[true, true, true, true, true, true, true, true, true, true, true, true, true, true, true, true, true, true, true, false, false, false, false, false, false] rfl rfl (by kernel_rfl) (fun _ _ _ h => h) (Or.inl ⟨by rfl, ?_⟩) ?_ ?_
    rotate_left
    · intro w'
      go_simp
      with_reducible rfl
    rotate_left
    · simp only [Act.put, List.setIfInBounds_toArray, List.set_cons_zero, List.set_cons_succ]
      rfl
    refine take_ (i := 19) (N := (some 107)) (v := ?_) (a' := ?_) #[true, true, true, true, true, true, true, true, true, true, true, true, true, true, true, true, true, true, true, true, false, false, false, false, false] rfl rfl (by kernel_rfl) (fun _ _ _ h => h) (Or.inl ⟨by rfl, ?_⟩) hHeld ?_ ?_
    rotate_left
    · rintro w' ⟨s0, s1⟩
      have k2 : w'.cell? ⟨w.heap.size, 2, none⟩ = some (.int .i64 (q : Nat)) := by rw [Lib.cell_of_heap s0]; rfl
      go_simp
      with_reducible rfl
    rotate_left
    · simp only [Act.put, List.setIfInBounds_toArray, List.set_cons_zero, List.set_cons_succ]
      rfl
    refine pure_ (i := 20) (N := (some 108)) (v := ?_) (a' := ?_) #[true, true, true, true, true, true, true, true, true, true, true, true, true, true, true, true, true, true, true, true, true, false, false, false, false] rfl rfl (by kernel_rfl) (fun _ _ _ h => h) (Or.inl ⟨by rfl, ?_⟩) ?_ ?_
    rotate_left
    · intro w'
      go_simp
      with_reducible rfl
    rotate_left
    · simp only [Act.put, List.setIfInBounds_toArray, List.set_cons_zero, List.set_cons_succ]
      rfl
    refine pure_ (i := 21) (N := (some 109)) (v := ?_) (a' := ?_) #[true, true, true, true, true, true, true, true, true, true, true, true, true, true, true, true, true, true, true, true, true, true, false, false, false] rfl rfl (by kernel_rfl) (fun _ _ _ h => h) (Or.inl ⟨by rfl, ?_⟩) ?_ ?_
    rotate_left
    · intro w'
      go_simp
      with_reducible rfl
    rotate_left
    · simp only [Act.put, List.setIfInBounds_toArray, List.set_cons_zero, List.set_cons_succ]
      rfl
    refine pure_ (i := 22) (N := (some 110)) (v := ?_) (a' := ?_) #[true, true, true, true, true, true, true, true, true, true, true, true, true, true, true, true, true, true, true, true, true, true, true, false, false] rfl rfl (by kernel_rfl) (fun _ _ _ h => h) (Or.inl ⟨by rfl, ?_⟩) ?_ ?_
    rotate_left
    · intro w'
      go_simp
      with_reducible rfl
    rotate_left
    · simp only [Act.put, List.setIfInBounds_toArray, List.set_cons_zero, List.set_cons_succ]
      rfl
    refine pure_ (i := 23) (N := (some 4)) (v := ?_) (a' := ?_) #[true, true, true, true, true, true, true, true, true, true, true, true, true, true, true, true, true, true, true, true, true, true, true, true, false] rfl rfl (by kernel_rfl) (fun _ _ _ h => h) (Or.inl ⟨by rfl, ?_⟩) ?_ ?_
    rotate_left
    · intro w'
      go_simp
      with_reducible rfl
    rotate_left
    · simp only [Act.put, List.setIfInBounds_toArray, List.set_cons_zero, List.set_cons_succ]
      rfl
    refine pure_ (i := 24) (N := (some 5)) (v := ?_) (a' := ?_) #[true, true, true, true, true, true, true, true, true, true, true, true, true, true, true, true, true, true, true, true, true, true, true, true, true] rfl rfl (by kernel_rfl) (fun _ _ _ h => h) (Or.inl ⟨by rfl, ?_⟩) ?_ ?_
    rotate_left
    · intro w'
      go_simp
      with_reducible rfl
    rotate_left
    · simp only [Act.put, List.setIfInBounds_toArray, List.set_cons_zero, List.set_cons_succ]
      rfl
    refine done_ (by kernel_rfl) ?_
    go_wp2_with fail
    go_ret2
    exact ⟨⟨_, _, rfl, put_weak (by show ByteArray.size _ ≤ 100; (try simp only [ByteArray.size_append, ByteArray.size_extract, show (⟨#[46]⟩ : ByteArray).size = 1 from rfl]); omega) (by show ¬ ((6 : Int) = 0); decide) (by show ¬ ((6 : Int) = 1); decide) (by show ¬ ((6 : Int) = 2); decide)⟩, hHeld.2⟩
theorem put7_any (at_ n : Int) (word : ByteArray) (all : List Int) (A C : Option Addr) (c d : Nat) (ss : List ByteArray) (w : World) (hI : IsA w A all) (hC : WsA w C ss) (hR : RightP ss.length ⟨7, at_, n, word, all⟩) (hz : ∀ t ∈ ss, t.size ≤ 20) (hl : ss.length ≤ 8) (ha : all.length ≤ 5) (hw : word.size ≤ 20) : Calls Tryd.prog 28 #[pcV ⟨7, at_, n, word, all⟩ A c, .slice C ss.length d] w fun e w' => PutR ⟨7, at_, n, word, all⟩ ss w e w' := by
  unfold pcV
  have HB : Hid (Below w.heap.size w (w.alloc (.cells #[.int .i64 7, .int .i64 at_, .int .i64 n, .string word, .slice A all.length c] 55))) := Lib.hid ((Below.refl w.heap.size w).alloc (Nat.le_refl _) _)
  have HBOX : Hid (BoxAt w.heap.size (.cells #[.int .i64 7, .int .i64 at_, .int .i64 n, .string word, .slice A all.length c] 55) (w.alloc (.cells #[.int .i64 7, .int .i64 at_, .int .i64 n, .string word, .slice A all.length c] 55))) := Lib.hid (heap_alloc_last w _)
  have HI := Lib.hid hI
  have HC := Lib.hid hC
  have HZ := Lib.hid hz
  clear hI hC hz
  have hr := hR
  simp only [RightP] at hr
  have hat : 1 ≤ at_ ∧ at_ ≤ (ss.length : Int) := by
    rcases hr with h | h | h
    · exact absurd h.1 (by decide)
    · exact absurd h.1 (by decide)
    · exact h.2.2.1
  have hn : 1 ≤ n ∧ n ≤ 1000 := by
    rcases hr with h | h | h
    · exact absurd h.1 (by decide)
    · exact absurd h.1 (by decide)
    · have h4 := h.2.2.2; simp at h4; exact h4
  clear hr hR
  obtain ⟨j, rfl⟩ : ∃ j : Nat, at_ = (j : Int) + 1 := ⟨(at_ - 1).toNat, by omega⟩
  have hj : j < ss.length := by omega
  obtain ⟨b, rfl, c0⟩ := (HC.out.later HB.out).2 j hj
  have ht20 := HZ.out ss[j] (List.getElem_mem _)
  obtain ⟨t, ht⟩ : ∃ t, ss[j] = t := ⟨_, rfl⟩
  rw [ht] at c0 ht20
  have HTT := Lib.hid ht
  clear ht
  have j1 : (j : Int) + 1 - 1 = (j : Int) := by omega
  have j2 : IntKind.i64.wrap (j : Int) = (j : Int) := IntWalk.i64_in _ ⟨by omega, by omega⟩
  have j3 : IntKind.i64.wrap ((j : Int) + 1 - 1) = (j : Int) := by rw [j1]; exact j2
  have j4 : decide ((j : Int) < (ss.length : Int)) = true := bd (by omega)
  have j5 : decide (j < ss.length) = true := bd hj
  obtain ⟨q, rfl⟩ : ∃ q : Nat, n = (q : Int) := ⟨n.toNat, by omega⟩
  have q0 : ((q : Int) == 0) = false := bn _ _ (by omega)
  have q1 : (q == 0) = false := beq_eq_false_iff_ne.2 (by omega)
  have q2 : ((q : Int) = 0) = False := eq_false (by omega)
  have q3 : (q = 0) = False := eq_false (by omega)
  go_enter Tryd.func28, Tryd.ntmps28
  go_wp2_with fail
  generalize w.alloc (.cells #[.int .i64 7, .int .i64 ((j : Int) + 1), .int .i64 (q : Nat), .string word, .slice A all.length c] 55) = w0 at HB HBOX c0 ⊢
  have HBO := Lib.hid HBOX.out
  have l2 : w0.cell? ⟨w.heap.size, 2, none⟩ = some (.int .i64 (q : Nat)) := by rw [Lib.cell_of_heap HBOX.out]; rfl
  go_loopg [4, 10] t.size (fun gk v4 vi w' => ∃ (i : Nat) (V : ByteArray), v4 = .string V ∧ vi = .int .i64 (i : Nat) ∧ gk + i = t.size ∧ w0 = w' ∧ V.size ≤ 2 * i)
  case atStart => exact ⟨0, _, rfl, rfl, rfl, rfl, Nat.le_refl _⟩
  case round =>
    obtain ⟨i, V, rfl, rfl, hgi, rfl, hV⟩ := hrel
    by_cases hi : i < t.size
    · have d3 : decide ((i : Int) < (t.size : Int)) = true := bd (by omega)
      have d4 : decide (i < t.size) = true := bd hi
      have hes : (t.extract i (i + 1)).size = 1 := by simp; omega
      have z2 : V.size + (t.extract i (i + 1)).size ≤ 9223372036854775807 := by omega
      have z2a := eq_true z2
      have z2b : decide (V.size + (t.extract i (i + 1)).size ≤ 9223372036854775807) = true := decide_eq_true z2
      have z2c : (9223372036854775807 < V.size + (t.extract i (i + 1)).size) = False := eq_false (Nat.not_lt.2 z2)
      have z3 : V.size + 1 ≤ 9223372036854775807 := by omega
      have z3a := eq_true z3
      have z3b : decide (V.size + 1 ≤ 9223372036854775807) = true := decide_eq_true z3
      have z3c : (9223372036854775807 < V.size + 1) = False := eq_false (Nat.not_lt.2 z3)
      by_cases hi0 : i = 0
      · have g1 : decide ((0 : Int) < (i : Int)) = false := nd (by omega)
        have g2 : decide (0 < i) = false := nd (by omega)
        have HI0 := Lib.hid hi0
        clear hi0
        have hV2 : (V ++ t.extract i (i + 1)).size ≤ 2 * (i + 1) := by rw [ByteArray.size_append]; omega
        go_wp2_with fail
        go_roundg (gk - 1)
        case measure => omega
        case rel => exact ⟨i + 1, _, rfl, by simp, by omega, rfl, hV2⟩
      · have g1 : decide ((0 : Int) < (i : Int)) = true := bd (by omega)
        have g2 : decide (0 < i) = true := bd (by omega)
        clear hi0
        by_cases hm : i % q = 0
        · have m1 : (((i % q : Nat) : Int) == 0) = true := by exact be _ _ (by omega)
          have m2 : ((i : Int) % (q : Int) == 0) = true := by rw [← Int.natCast_emod]; exact m1
          have m3 : (Int.tmod (i : Int) (q : Int) == 0) = true := by rw [Int.tmod_eq_emod_of_nonneg (by omega)]; exact m2
          have m4 : ((i % q) == 0) = true := by exact beq_iff_eq.2 hm
          clear hm
          have hV2 : (V ++ (⟨#[46]⟩ : ByteArray) ++ t.extract i (i + 1)).size ≤ 2 * (i + 1) := by rw [ByteArray.size_append, ByteArray.size_append]; show V.size + 1 + _ ≤ _; omega
          have z1 : (V ++ (⟨#[46]⟩ : ByteArray)).size + (t.extract i (i + 1)).size ≤ 9223372036854775807 := by rw [ByteArray.size_append]; show V.size + 1 + _ ≤ _; omega
          have z1a := eq_true z1
          have z1b : decide ((V ++ (⟨#[46]⟩ : ByteArray)).size + (t.extract i (i + 1)).size ≤ 9223372036854775807) = true := decide_eq_true z1
          have z1c : (9223372036854775807 < (V ++ (⟨#[46]⟩ : ByteArray)).size + (t.extract i (i + 1)).size) = False := eq_false (Nat.not_lt.2 z1)
          go_wp2_with fail
          go_roundg (gk - 1)
          case measure => omega
          case rel => exact ⟨i + 1, _, rfl, by simp, by omega, rfl, hV2⟩
        · have m1 : (((i % q : Nat) : Int) == 0) = false := by exact bn _ _ (by omega)
          have m2 : ((i : Int) % (q : Int) == 0) = false := by rw [← Int.natCast_emod]; exact m1
          have m3 : (Int.tmod (i : Int) (q : Int) == 0) = false := by rw [Int.tmod_eq_emod_of_nonneg (by omega)]; exact m2
          have m4 : ((i % q) == 0) = false := by exact beq_eq_false_iff_ne.2 hm
          clear hm
          have hV2 : (V ++ t.extract i (i + 1)).size ≤ 2 * (i + 1) := by rw [ByteArray.size_append]; omega
          go_wp2_with fail
          go_roundg (gk - 1)
          case measure => omega
          case rel => exact ⟨i + 1, _, rfl, by simp, by omega, rfl, hV2⟩
    · have d3 : decide ((i : Int) < (t.size : Int)) = false := nd (by omega)
      have d4 : decide (i < t.size) = false := nd hi
      go_wp2_with fail
      go_quiet (fail)
      rename_i nq
      go_wp2_with fail
      go_ret2
      exact ⟨⟨_, _, rfl, put_weak (by show V.size ≤ 100; omega) (by show ¬ ((7 : Int) = 0); decide) (by show ¬ ((7 : Int) = 1); decide) (by show ¬ ((7 : Int) = 2); decide)⟩, below_dn HB.out _⟩
theorem put8_any (at_ n : Int) (word : ByteArray) (all : List Int) (A C : Option Addr) (c d : Nat) (ss : List ByteArray) (w : World) (hI : IsA w A all) (hC : WsA w C ss) (hR : RightP ss.length ⟨8, at_, n, word, all⟩) (hz : ∀ t ∈ ss, t.size ≤ 20) (hl : ss.length ≤ 8) (ha : all.length ≤ 5) (hw : word.size ≤ 20) : Calls Tryd.prog 28 #[pcV ⟨8, at_, n, word, all⟩ A c, .slice C ss.length d] w fun e w' => PutR ⟨8, at_, n, word, all⟩ ss w e w' := by
  unfold pcV
  have HB : Hid (Below w.heap.size w (w.alloc (.cells #[.int .i64 8, .int .i64 at_, .int .i64 n, .string word, .slice A all.length c] 55))) := Lib.hid ((Below.refl w.heap.size w).alloc (Nat.le_refl _) _)
  have HBOX : Hid (BoxAt w.heap.size (.cells #[.int .i64 8, .int .i64 at_, .int .i64 n, .string word, .slice A all.length c] 55) (w.alloc (.cells #[.int .i64 8, .int .i64 at_, .int .i64 n, .string word, .slice A all.length c] 55))) := Lib.hid (heap_alloc_last w _)
  have HI := Lib.hid hI
  have HC := Lib.hid hC
  have HZ := Lib.hid hz
  clear hI hC hz
  have hr := hR
  simp only [RightP] at hr
  have hat : 1 ≤ at_ ∧ at_ ≤ (ss.length : Int) := by
    rcases hr with h | h | h
    · exact absurd h.1 (by decide)
    · exact absurd h.1 (by decide)
    · exact h.2.2.1
  have hn : 1 ≤ n ∧ n ≤ 1000 := by
    rcases hr with h | h | h
    · exact absurd h.1 (by decide)
    · exact absurd h.1 (by decide)
    · have h4 := h.2.2.2; simp at h4; exact h4
  clear hr hR
  obtain ⟨j, rfl⟩ : ∃ j : Nat, at_ = (j : Int) + 1 := ⟨(at_ - 1).toNat, by omega⟩
  have hj : j < ss.length := by omega
  obtain ⟨b, rfl, c0⟩ := (HC.out.later HB.out).2 j hj
  have ht20 := HZ.out ss[j] (List.getElem_mem _)
  obtain ⟨t, ht⟩ : ∃ t, ss[j] = t := ⟨_, rfl⟩
  rw [ht] at c0 ht20
  have HTT := Lib.hid ht
  clear ht
  have j1 : (j : Int) + 1 - 1 = (j : Int) := by omega
  have j2 : IntKind.i64.wrap (j : Int) = (j : Int) := IntWalk.i64_in _ ⟨by omega, by omega⟩
  have j3 : IntKind.i64.wrap ((j : Int) + 1 - 1) = (j : Int) := by rw [j1]; exact j2
  have j4 : decide ((j : Int) < (ss.length : Int)) = true := bd (by omega)
  have j5 : decide (j < ss.length) = true := bd hj
  obtain ⟨q, rfl⟩ : ∃ q : Nat, n = (q : Int) := ⟨n.toNat, by omega⟩
  have q0 : ((q : Int) == 0) = false := bn _ _ (by omega)
  have q1 : (q == 0) = false := beq_eq_false_iff_ne.2 (by omega)
  have q2 : ((q : Int) = 0) = False := eq_false (by omega)
  have q3 : (q = 0) = False := eq_false (by omega)
  go_enter Tryd.func28, Tryd.ntmps28
  go_wp2_with fail
  generalize w.alloc (.cells #[.int .i64 8, .int .i64 ((j : Int) + 1), .int .i64 (q : Nat), .string word, .slice A all.length c] 55) = w0 at HB HBOX c0 ⊢
  have HBO := Lib.hid HBOX.out
  have l2 : w0.cell? ⟨w.heap.size, 2, none⟩ = some (.int .i64 (q : Nat)) := by rw [Lib.cell_of_heap HBOX.out]; rfl
  go_loopg [4, 11] t.size (fun gk v4 vi w' => ∃ (i : Nat) (V : ByteArray), v4 = .string V ∧ vi = .int .i64 (i : Nat) ∧ gk + i = t.size ∧ w0 = w' ∧ V.size ≤ 2 * i)
  case atStart => exact ⟨0, _, rfl, rfl, rfl, rfl, Nat.le_refl _⟩
  case round =>
    obtain ⟨i, V, rfl, rfl, hgi, rfl, hV⟩ := hrel
    by_cases hi : i < t.size
    · have d3 : decide ((i : Int) < (t.size : Int)) = true := bd (by omega)
      have d4 : decide (i < t.size) = true := bd hi
      have hes : (t.extract i (i + 1)).size = 1 := by simp; omega
      have z5 : V.size + (t.extract i (i + 1)).size ≤ 9223372036854775807 := by omega
      have z5a := eq_true z5
      have z5b : decide (V.size + (t.extract i (i + 1)).size ≤ 9223372036854775807) = true := decide_eq_true z5
      have z5c : (9223372036854775807 < V.size + (t.extract i (i + 1)).size) = False := eq_false (Nat.not_lt.2 z5)
      have z6 : V.size + 1 ≤ 9223372036854775807 := by omega
      have z6a := eq_true z6
      have z6b : decide (V.size + 1 ≤ 9223372036854775807) = true := decide_eq_true z6
      have z6c : (9223372036854775807 < V.size + 1) = False := eq_false (Nat.not_lt.2 z6)
      obtain ⟨d2, hd2⟩ : ∃ d2 : Nat, t.size = d2 + i := ⟨t.size - i, by omega⟩
      have dd1 : (t.size : Int) - (i : Int) = (d2 : Int) := by omega
      have dd2 : IntKind.i64.wrap (d2 : Int) = (d2 : Int) := IntWalk.i64_in _ ⟨by omega, by omega⟩
      have dd3 : IntKind.i64.wrap ((t.size : Int) - (i : Int)) = (d2 : Int) := by rw [dd1]; exact dd2
      clear hd2
      by_cases hi0 : i = 0
      · have g1 : decide ((0 : Int) < (i : Int)) = false := nd (by omega)
        have g2 : decide (0 < i) = false := nd (by omega)
        have HI0 := Lib.hid hi0
        clear hi0
        have hV2 : (V ++ t.extract i (i + 1)).size ≤ 2 * (i + 1) := by rw [ByteArray.size_append]; omega
        go_wp2_with fail
        go_roundg (gk - 1)
        case measure => omega
        case rel => exact ⟨i + 1, _, rfl, by simp, by omega, rfl, hV2⟩
      · have g1 : decide ((0 : Int) < (i : Int)) = true := bd (by omega)
        have g2 : decide (0 < i) = true := bd (by omega)
        clear hi0
        by_cases hm : d2 % q = 0
        · have m1 : (((d2 % q : Nat) : Int) == 0) = true := by exact be _ _ (by omega)
          have m2 : ((d2 : Int) % (q : Int) == 0) = true := by rw [← Int.natCast_emod]; exact m1
          have m3 : (Int.tmod (d2 : Int) (q : Int) == 0) = true := by rw [Int.tmod_eq_emod_of_nonneg (by omega)]; exact m2
          have m4 : ((d2 % q) == 0) = true := by exact beq_iff_eq.2 hm
          clear hm
          have hV2 : (V ++ (⟨#[46]⟩ : ByteArray) ++ t.extract i (i + 1)).size ≤ 2 * (i + 1) := by rw [ByteArray.size_append, ByteArray.size_append]; show V.size + 1 + _ ≤ _; omega
          have z4 : (V ++ (⟨#[46]⟩ : ByteArray)).size + (t.extract i (i + 1)).size ≤ 9223372036854775807 := by rw [ByteArray.size_append]; show V.size + 1 + _ ≤ _; omega
          have z4a := eq_true z4
          have z4b : decide ((V ++ (⟨#[46]⟩ : ByteArray)).size + (t.extract i (i + 1)).size ≤ 9223372036854775807) = true := decide_eq_true z4
          have z4c : (9223372036854775807 < (V ++ (⟨#[46]⟩ : ByteArray)).size + (t.extract i (i + 1)).size) = False := eq_false (Nat.not_lt.2 z4)
          go_wp2_with fail
          go_roundg (gk - 1)
          case measure => omega
          case rel => exact ⟨i + 1, _, rfl, by simp, by omega, rfl, hV2⟩
        · have m1 : (((d2 % q : Nat) : Int) == 0) = false := by exact bn _ _ (by omega)
          have m2 : ((d2 : Int) % (q : Int) == 0) = false := by rw [← Int.natCast_emod]; exact m1
          have m3 : (Int.tmod (d2 : Int) (q : Int) == 0) = false := by rw [Int.tmod_eq_emod_of_nonneg (by omega)]; exact m2
          have m4 : ((d2 % q) == 0) = false := by exact beq_eq_false_iff_ne.2 hm
          clear hm
          have hV2 : (V ++ t.extract i (i + 1)).size ≤ 2 * (i + 1) := by rw [ByteArray.size_append]; omega
          go_wp2_with fail
          go_roundg (gk - 1)
          case measure => omega
          case rel => exact ⟨i + 1, _, rfl, by simp, by omega, rfl, hV2⟩
    · have d3 : decide ((i : Int) < (t.size : Int)) = false := nd (by omega)
      have d4 : decide (i < t.size) = false := nd hi
      go_wp2_with fail
      go_quiet (fail)
      rename_i nq
      go_wp2_with fail
      go_ret2
      exact ⟨⟨_, _, rfl, put_weak (by show V.size ≤ 100; omega) (by show ¬ ((8 : Int) = 0); decide) (by show ¬ ((8 : Int) = 1); decide) (by show ¬ ((8 : Int) = 2); decide)⟩, below_dn HB.out _⟩
theorem put9_any (at_ n : Int) (word : ByteArray) (all : List Int) (A C : Option Addr) (c d : Nat) (ss : List ByteArray) (w : World) (hI : IsA w A all) (hC : WsA w C ss) (hR : RightP ss.length ⟨9, at_, n, word, all⟩) (hz : ∀ t ∈ ss, t.size ≤ 20) (hl : ss.length ≤ 8) (ha : all.length ≤ 5) (hw : word.size ≤ 20) : Calls Tryd.prog 28 #[pcV ⟨9, at_, n, word, all⟩ A c, .slice C ss.length d] w fun e w' => PutR ⟨9, at_, n, word, all⟩ ss w e w' := by
  unfold pcV
  have HB : Hid (Below w.heap.size w (w.alloc (.cells #[.int .i64 9, .int .i64 at_, .int .i64 n, .string word, .slice A all.length c] 55))) := Lib.hid ((Below.refl w.heap.size w).alloc (Nat.le_refl _) _)
  have HBOX : Hid (BoxAt w.heap.size (.cells #[.int .i64 9, .int .i64 at_, .int .i64 n, .string word, .slice A all.length c] 55) (w.alloc (.cells #[.int .i64 9, .int .i64 at_, .int .i64 n, .string word, .slice A all.length c] 55))) := Lib.hid (heap_alloc_last w _)
  have HI := Lib.hid hI
  have HC := Lib.hid hC
  have HZ := Lib.hid hz
  clear hI hC hz
  have hr := hR
  simp only [RightP] at hr
  have hat : 1 ≤ at_ ∧ at_ ≤ (ss.length : Int) := by
    rcases hr with h | h | h
    · exact absurd h.1 (by decide)
    · exact absurd h.1 (by decide)
    · exact h.2.2.1
  have hn : 1 ≤ n ∧ n ≤ 1000 := by
    rcases hr with h | h | h
    · exact absurd h.1 (by decide)
    · exact absurd h.1 (by decide)
    · have h4 := h.2.2.2; simp at h4; exact h4
  clear hr hR
  obtain ⟨j, rfl⟩ : ∃ j : Nat, at_ = (j : Int) + 1 := ⟨(at_ - 1).toNat, by omega⟩
  have hj : j < ss.length := by omega
  obtain ⟨b, rfl, c0⟩ := (HC.out.later HB.out).2 j hj
  have ht20 := HZ.out ss[j] (List.getElem_mem _)
  obtain ⟨t, ht⟩ : ∃ t, ss[j] = t := ⟨_, rfl⟩
  rw [ht] at c0 ht20
  have HTT := Lib.hid ht
  clear ht
  have j1 : (j : Int) + 1 - 1 = (j : Int) := by omega
  have j2 : IntKind.i64.wrap (j : Int) = (j : Int) := IntWalk.i64_in _ ⟨by omega, by omega⟩
  have j3 : IntKind.i64.wrap ((j : Int) + 1 - 1) = (j : Int) := by rw [j1]; exact j2
  have j4 : decide ((j : Int) < (ss.length : Int)) = true := bd (by omega)
  have j5 : decide (j < ss.length) = true := bd hj
  obtain ⟨q, rfl⟩ : ∃ q : Nat, n = (q : Int) := ⟨n.toNat, by omega⟩
  go_enter Tryd.func28, Tryd.ntmps28
  go_upto_region 39 with fail
  generalize w.alloc (.cells #[.int .i64 9, .int .i64 ((j : Int) + 1), .int .i64 (q : Nat), .string word, .slice A all.length c] 55) = w0 at HB HBOX c0 ⊢
  by_cases hq : q ≤ t.size
  · have u1 : ((t.size : Int) < (q : Int)) = False := eq_false (by omega)
    have u2 : (t.size < q) = False := eq_false (by omega)
    have u5 : (q ≤ t.size) = True := eq_true (by omega)
    have u6 : ((q : Int) ≤ (t.size : Int)) = True := eq_true (by omega)
    refine start_ (n := 14) (S := (fun w' => BoxAt w.heap.size (.cells #[.int .i64 9, .int .i64 ((j : Int) + 1), .int .i64 (q : Nat), .string word, .slice A all.length c] 55) w' ∧ Below w.heap.size w w')) (ds := []) #[false, false, false, false, false, false, false, false, false, false, false, false, false, false] (by kernel_rfl) rfl rfl ⟨HBOX.out, below_drew HB.out⟩ (fun hHeld => ?_)
    refine pure_ (i := 0) (N := (some 180)) (v := ?_) (a' := ?_) #[true, false, false, false, false, false, false, false, false, false, false, false, false, false] rfl rfl (by kernel_rfl) (fun _ _ _ h => h) (Or.inl ⟨by rfl, ?_⟩) ?_ ?_
    rotate_left
    · intro w'
      go_simp
      with_reducible rfl
    rotate_left
    · simp only [Act.put, List.setIfInBounds_toArray, List.set_cons_zero, List.set_cons_succ]
      rfl
    refine pure_ (i := 1) (N := (some 181)) (v := ?_) (a' := ?_) #[true, true, false, false, false, false, false, false, false, false, false, false, false, false] rfl rfl (by kernel_rfl) (fun _ _ _ h => h) (Or.inl ⟨by rfl, ?_⟩) ?_ ?_
    rotate_left
    · intro w'
      go_simp
      with_reducible rfl
    rotate_left
    · simp only [Act.put, List.setIfInBounds_toArray, List.set_cons_zero, List.set_cons_succ]
      rfl
    refine take_ (i := 2) (N := (some 182)) (v := ?_) (a' := ?_) #[true, true, true, false, false, false, false, false, false, false, false, false, false, false] rfl rfl (by kernel_rfl) (fun _ _ _ h => h) (Or.inl ⟨by rfl, ?_⟩) hHeld ?_ ?_
    rotate_left
    · rintro w' ⟨s0, s1⟩
      have k2 : w'.cell? ⟨w.heap.size, 2, none⟩ = some (.int .i64 (q : Nat)) := by rw [Lib.cell_of_heap s0]; rfl
      go_simp
      with_reducible rfl
    rotate_left
    · simp only [Act.put, List.setIfInBounds_toArray, List.set_cons_zero, List.set_cons_succ]
      rfl
    refine pure_ (i := 3) (N := (some 183)) (v := ?_) (a' := ?_) #[true, true, true, true, false, false, false, false, false, false, false, false, false, false] rfl rfl (by kernel_rfl) (fun _ _ _ h => h) (Or.inl ⟨by rfl, ?_⟩) ?_ ?_
    rotate_left
    · intro w'
      go_simp
      with_reducible rfl
    rotate_left
    · simp only [Act.put, List.setIfInBounds_toArray, List.set_cons_zero, List.set_cons_succ]
      rfl
    refine pure_ (i := 4) (N := (some 184)) (v := ?_) (a' := ?_) #[true, true, true, true, true, false, false, false, false, false, false, false, false, false] rfl rfl (by kernel_rfl) (fun _ _ _ h => h) (Or.inl ⟨by rfl, ?_⟩) ?_ ?_
    rotate_left
    · intro w'
      go_simp
      with_reducible rfl
    rotate_left
    · simp only [Act.put, List.setIfInBounds_toArray, List.set_cons_zero, List.set_cons_succ]
      rfl
    refine pure_ (i := 5) (N := (some 185)) (v := ?_) (a' := ?_) #[true, true, true, true, true, true, false, false, false, false, false, false, false, false] rfl rfl (by kernel_rfl) (fun _ _ _ h => h) (Or.inl ⟨by rfl, ?_⟩) ?_ ?_
    rotate_left
    · intro w'
      go_simp
      with_reducible rfl
    rotate_left
    · simp only [Act.put, List.setIfInBounds_toArray, List.set_cons_zero, List.set_cons_succ]
      rfl
    refine pure_ (i := 6) (N := (some 186)) (v := ?_) (a' := ?_) #[true, true, true, true, true, true, true, false, false, false, false, false, false, false] rfl rfl (by kernel_rfl) (fun _ _ _ h => h) (Or.inl ⟨by rfl, ?_⟩) ?_ ?_
    rotate_left
    · intro w'
      go_simp
      with_reducible rfl
    rotate_left
    · simp only [Act.put, List.setIfInBounds_toArray, List.set_cons_zero, List.set_cons_succ]
      rfl
    refine pure_ (i := 7) (N := (some 187)) (v := ?_) (a' := ?_) #[true, true, true, true, true, true, true, true, false, false, false, false, false, false] rfl rfl (by kernel_rfl) (fun _ _ _ h => h) (Or.inl ⟨by rfl, ?_⟩) ?_ ?_
    rotate_left
    · intro w'
      go_simp
      with_reducible rfl
    rotate_left
    · simp only [Act.put, List.setIfInBounds_toArray, List.set_cons_zero, List.set_cons_succ]
      rfl
    refine take_ (i := 8) (N := (some 188)) (v := ?_) (a' := ?_) #[true, true, true, true, true, true, true, true, true, false, false, false, false, false] rfl rfl (by kernel_rfl) (fun _ _ _ h => h) (Or.inl ⟨by rfl, ?_⟩) hHeld ?_ ?_
    rotate_left
    · rintro w' ⟨s0, s1⟩
      have k2 : w'.cell? ⟨w.heap.size, 2, none⟩ = some (.int .i64 (q : Nat)) := by rw [Lib.cell_of_heap s0]; rfl
      go_simp
      with_reducible rfl
    rotate_left
    · simp only [Act.put, List.setIfInBounds_toArray, List.set_cons_zero, List.set_cons_succ]
      rfl
    refine pure_ (i := 9) (N := (some 189)) (v := ?_) (a' := ?_) #[true, true, true, true, true, true, true, true, true, true, false, false, false, false] rfl rfl (by kernel_rfl) (fun _ _ _ h => h) (Or.inl ⟨by rfl, ?_⟩) ?_ ?_
    rotate_left
    · intro w'
      go_simp
      with_reducible rfl
    rotate_left
    · simp only [Act.put, List.setIfInBounds_toArray, List.set_cons_zero, List.set_cons_succ]
      rfl
    refine pure_ (i := 10) (N := (some 190)) (v := ?_) (a' := ?_) #[true, true, true, true, true, true, true, true, true, true, true, false, false, false] rfl rfl (by kernel_rfl) (fun _ _ _ h => h) (Or.inl ⟨by rfl, ?_⟩) ?_ ?_
    rotate_left
    · intro w'
      go_simp
      with_reducible rfl
    rotate_left
    · simp only [Act.put, List.setIfInBounds_toArray, List.set_cons_zero, List.set_cons_succ]
      rfl
    refine pure_ (i := 11) (N := (some 191)) (v := ?_) (a' := ?_) #[true, true, true, true, true, true, true, true, true, true, true, true, false, false] rfl rfl (by kernel_rfl) (fun _ _ _ h => h) (Or.inl ⟨by rfl, ?_⟩) ?_ ?_
    rotate_left
    · intro w'
      go_simp
      with_reducible rfl
    rotate_left
    · simp only [Act.put, List.setIfInBounds_toArray, List.set_cons_zero, List.set_cons_succ]
      rfl
    refine pure_ (i := 12) (N := (some 4)) (v := ?_) (a' := ?_) #[true, true, true, true, true, true, true, true, true, true, true, true, true, false] rfl rfl (by kernel_rfl) (fun _ _ _ h => h) (Or.inl ⟨by rfl, ?_⟩) ?_ ?_
    rotate_left
    · intro w'
      go_simp
      with_reducible rfl
    rotate_left
    · simp only [Act.put, List.setIfInBounds_toArray, List.set_cons_zero, List.set_cons_succ]
      rfl
    refine pure_ (i := 13) (N := (some 5)) (v := ?_) (a' := ?_) #[true, true, true, true, true, true, true, true, true, true, true, true, true, true] rfl rfl (by kernel_rfl) (fun _ _ _ h => h) (Or.inl ⟨by rfl, ?_⟩) ?_ ?_
    rotate_left
    · intro w'
      go_simp
      with_reducible rfl
    rotate_left
    · simp only [Act.put, List.setIfInBounds_toArray, List.set_cons_zero, List.set_cons_succ]
      rfl
    refine done_ (by kernel_rfl) ?_
    go_wp2_with fail
    go_ret2
    exact ⟨⟨_, _, rfl, put_weak (by show ByteArray.size _ ≤ 100; (try simp only [ByteArray.size_append, ByteArray.size_extract, show (⟨#[46]⟩ : ByteArray).size = 1 from rfl]); omega) (by show ¬ ((9 : Int) = 0); decide) (by show ¬ ((9 : Int) = 1); decide) (by show ¬ ((9 : Int) = 2); decide)⟩, hHeld.2⟩
  · have u1 : ((t.size : Int) < (q : Int)) = True := eq_true (by omega)
    have u2 : (t.size < q) = True := eq_true (by omega)
    refine start_ (n := 14) (S := (fun w' => BoxAt w.heap.size (.cells #[.int .i64 9, .int .i64 ((j : Int) + 1), .int .i64 (q : Nat), .string word, .slice A all.length c] 55) w' ∧ Below w.heap.size w w')) (ds := []) #[false, false, false, false, false, false, false, false, false, false, false, false, false, false] (by kernel_rfl) rfl rfl ⟨HBOX.out, below_drew HB.out⟩ (fun hHeld => ?_)
    refine pure_ (i := 0) (N := (some 180)) (v := ?_) (a' := ?_) #[true, false, false, false, false, false, false, false, false, false, false, false, false, false] rfl rfl (by kernel_rfl) (fun _ _ _ h => h) (Or.inl ⟨by rfl, ?_⟩) ?_ ?_
    rotate_left
    · intro w'
      go_simp
      with_reducible rfl
    rotate_left
    · simp only [Act.put, List.setIfInBounds_toArray, List.set_cons_zero, List.set_cons_succ]
      rfl
    refine pure_ (i := 1) (N := (some 181)) (v := ?_) (a' := ?_) #[true, true, false, false, false, false, false, false, false, false, false, false, false, false] rfl rfl (by kernel_rfl) (fun _ _ _ h => h) (Or.inl ⟨by rfl, ?_⟩) ?_ ?_
    rotate_left
    · intro w'
      go_simp
      with_reducible rfl
    rotate_left
    · simp only [Act.put, List.setIfInBounds_toArray, List.set_cons_zero, List.set_cons_succ]
      rfl
    refine take_ (i := 2) (N := (some 182)) (v := ?_) (a' := ?_) #[true, true, true, false, false, false, false, false, false, false, false, false, false, false] rfl rfl (by kernel_rfl) (fun _ _ _ h => h) (Or.inl ⟨by rfl, ?_⟩) hHeld ?_ ?_
    rotate_left
    · rintro w' ⟨s0, s1⟩
      have k2 : w'.cell? ⟨w.heap.size, 2, none⟩ = some (.int .i64 (q : Nat)) := by rw [Lib.cell_of_heap s0]; rfl
      go_simp
      with_reducible rfl
    rotate_left
    · simp only [Act.put, List.setIfInBounds_toArray, List.set_cons_zero, List.set_cons_succ]
      rfl
    refine pure_ (i := 3) (N := (some 183)) (v := ?_) (a' := ?_) #[true, true, true, true, false, false, false, false, false, false, false, false, false, false] rfl rfl (by kernel_rfl) (fun _ _ _ h => h) (Or.inl ⟨by rfl, ?_⟩) ?_ ?_
    rotate_left
    · intro w'
      go_simp
      with_reducible rfl
    rotate_left
    · simp only [Act.put, List.setIfInBounds_toArray, List.set_cons_zero, List.set_cons_succ]
      rfl
    refine pure_ (i := 4) (N := (some 184)) (v := ?_) (a' := ?_) #[true, true, true, true, true, false, false, false, false, false, false, false, false, false] rfl rfl (by kernel_rfl) (fun _ _ _ h => h) (Or.inl ⟨by rfl, ?_⟩) ?_ ?_
    rotate_left
    · intro w'
      go_simp
      with_reducible rfl
    rotate_left
    · simp only [Act.put, List.setIfInBounds_toArray, List.set_cons_zero, List.set_cons_succ]
      rfl
    refine pure_ (i := 5) (N := (some 185)) (v := ?_) (a' := ?_) #[true, true, true, true, true, true, false, false, false, false, false, false, false, false] rfl rfl (by kernel_rfl) (fun _ _ _ h => h) (Or.inl ⟨by rfl, ?_⟩) ?_ ?_
    rotate_left
    · intro w'
      go_simp
      with_reducible rfl
    rotate_left
    · simp only [Act.put, List.setIfInBounds_toArray, List.set_cons_zero, List.set_cons_succ]
      rfl
    refine pure_ (i := 6) (N := (some 186)) (v := ?_) (a' := ?_) #[true, true, true, true, true, true, true, false, false, false, false, false, false, false] rfl rfl (by kernel_rfl) (fun _ _ _ h => h) (Or.inl ⟨by rfl, ?_⟩) ?_ ?_
    rotate_left
    · intro w'
      go_simp
      with_reducible rfl
    rotate_left
    · simp only [Act.put, List.setIfInBounds_toArray, List.set_cons_zero, List.set_cons_succ]
      rfl
    refine pure_ (i := 7) (N := (some 187)) (v := ?_) (a' := ?_) #[true, true, true, true, true, true, true, true, false, false, false, false, false, false] rfl rfl (by kernel_rfl) (fun _ _ _ h => h) (Or.inl ⟨by rfl, ?_⟩) ?_ ?_
    rotate_left
    · intro w'
      go_simp
      with_reducible rfl
    rotate_left
    · simp only [Act.put, List.setIfInBounds_toArray, List.set_cons_zero, List.set_cons_succ]
      rfl
    refine take_ (i := 8) (N := (some 188)) (v := ?_) (a' := ?_) #[true, true, true, true, true, true, true, true, true, false, false, false, false, false] rfl rfl (by kernel_rfl) (fun _ _ _ h => h) (Or.inl ⟨by rfl, ?_⟩) hHeld ?_ ?_
    rotate_left
    · rintro w' ⟨s0, s1⟩
      have k2 : w'.cell? ⟨w.heap.size, 2, none⟩ = some (.int .i64 (q : Nat)) := by rw [Lib.cell_of_heap s0]; rfl
      go_simp
      with_reducible rfl
    rotate_left
    · simp only [Act.put, List.setIfInBounds_toArray, List.set_cons_zero, List.set_cons_succ]
      rfl
    refine pure_ (i := 9) (N := (some 189)) (v := ?_) (a' := ?_) #[true, true, true, true, true, true, true, true, true, true, false, false, false, false] rfl rfl (by kernel_rfl) (fun _ _ _ h => h) (Or.inl ⟨by rfl, ?_⟩) ?_ ?_
    rotate_left
    · intro w'
      go_simp
      with_reducible rfl
    rotate_left
    · simp only [Act.put, List.setIfInBounds_toArray, List.set_cons_zero, List.set_cons_succ]
      rfl
    refine pure_ (i := 10) (N := (some 190)) (v := ?_) (a' := ?_) #[true, true, true, true, true, true, true, true, true, true, true, false, false, false] rfl rfl (by kernel_rfl) (fun _ _ _ h => h) (Or.inl ⟨by rfl, ?_⟩) ?_ ?_
    rotate_left
    · intro w'
      go_simp
      with_reducible rfl
    rotate_left
    · simp only [Act.put, List.setIfInBounds_toArray, List.set_cons_zero, List.set_cons_succ]
      rfl
    refine pure_ (i := 11) (N := (some 191)) (v := ?_) (a' := ?_) #[true, true, true, true, true, true, true, true, true, true, true, true, false, false] rfl rfl (by kernel_rfl) (fun _ _ _ h => h) (Or.inl ⟨by rfl, ?_⟩) ?_ ?_
    rotate_left
    · intro w'
      go_simp
      with_reducible rfl
    rotate_left
    · simp only [Act.put, List.setIfInBounds_toArray, List.set_cons_zero, List.set_cons_succ]
      rfl
    refine pure_ (i := 12) (N := (some 4)) (v := ?_) (a' := ?_) #[true, true, true, true, true, true, true, true, true, true, true, true, true, false] rfl rfl (by kernel_rfl) (fun _ _ _ h => h) (Or.inl ⟨by rfl, ?_⟩) ?_ ?_
    rotate_left
    · intro w'
      go_simp
      with_reducible rfl
    rotate_left
    · simp only [Act.put, List.setIfInBounds_toArray, List.set_cons_zero, List.set_cons_succ]
      rfl
    refine pure_ (i := 13) (N := (some 5)) (v := ?_) (a' := ?_) #[true, true, true, true, true, true, true, true, true, true, true, true, true, true] rfl rfl (by kernel_rfl) (fun _ _ _ h => h) (Or.inl ⟨by rfl, ?_⟩) ?_ ?_
    rotate_left
    · intro w'
      go_simp
      with_reducible rfl
    rotate_left
    · simp only [Act.put, List.setIfInBounds_toArray, List.set_cons_zero, List.set_cons_succ]
      rfl
    refine done_ (by kernel_rfl) ?_
    go_wp2_with fail
    go_ret2
    exact ⟨⟨_, _, rfl, put_weak (by show ByteArray.size _ ≤ 100; (try simp only [ByteArray.size_append, ByteArray.size_extract, show (⟨#[46]⟩ : ByteArray).size = 1 from rfl]); omega) (by show ¬ ((9 : Int) = 0); decide) (by show ¬ ((9 : Int) = 1); decide) (by show ¬ ((9 : Int) = 2); decide)⟩, hHeld.2⟩
theorem put10_any (at_ n : Int) (word : ByteArray) (all : List Int) (A C : Option Addr) (c d : Nat) (ss : List ByteArray) (w : World) (hI : IsA w A all) (hC : WsA w C ss) (hR : RightP ss.length ⟨10, at_, n, word, all⟩) (hz : ∀ t ∈ ss, t.size ≤ 20) (hl : ss.length ≤ 8) (ha : all.length ≤ 5) (hw : word.size ≤ 20) : Calls Tryd.prog 28 #[pcV ⟨10, at_, n, word, all⟩ A c, .slice C ss.length d] w fun e w' => PutR ⟨10, at_, n, word, all⟩ ss w e w' := by
  unfold pcV
  have HB : Hid (Below w.heap.size w (w.alloc (.cells #[.int .i64 10, .int .i64 at_, .int .i64 n, .string word, .slice A all.length c] 55))) := Lib.hid ((Below.refl w.heap.size w).alloc (Nat.le_refl _) _)
  have HBOX : Hid (BoxAt w.heap.size (.cells #[.int .i64 10, .int .i64 at_, .int .i64 n, .string word, .slice A all.length c] 55) (w.alloc (.cells #[.int .i64 10, .int .i64 at_, .int .i64 n, .string word, .slice A all.length c] 55))) := Lib.hid (heap_alloc_last w _)
  have HI := Lib.hid hI
  have HC := Lib.hid hC
  have HZ := Lib.hid hz
  clear hI hC hz
  have hr := hR
  simp only [RightP] at hr
  have hat : 1 ≤ at_ ∧ at_ ≤ (ss.length : Int) := by
    rcases hr with h | h | h
    · exact absurd h.1 (by decide)
    · exact absurd h.1 (by decide)
    · exact h.2.2.1
  have hn : 1 ≤ n ∧ n ≤ 1000 := by
    rcases hr with h | h | h
    · exact absurd h.1 (by decide)
    · exact absurd h.1 (by decide)
    · have h4 := h.2.2.2; simp at h4; exact h4
  clear hr hR
  obtain ⟨j, rfl⟩ : ∃ j : Nat, at_ = (j : Int) + 1 := ⟨(at_ - 1).toNat, by omega⟩
  have hj : j < ss.length := by omega
  obtain ⟨b, rfl, c0⟩ := (HC.out.later HB.out).2 j hj
  have ht20 := HZ.out ss[j] (List.getElem_mem _)
  obtain ⟨t, ht⟩ : ∃ t, ss[j] = t := ⟨_, rfl⟩
  rw [ht] at c0 ht20
  have HTT := Lib.hid ht
  clear ht
  have j1 : (j : Int) + 1 - 1 = (j : Int) := by omega
  have j2 : IntKind.i64.wrap (j : Int) = (j : Int) := IntWalk.i64_in _ ⟨by omega, by omega⟩
  have j3 : IntKind.i64.wrap ((j : Int) + 1 - 1) = (j : Int) := by rw [j1]; exact j2
  have j4 : decide ((j : Int) < (ss.length : Int)) = true := bd (by omega)
  have j5 : decide (j < ss.length) = true := bd hj
  obtain ⟨q, rfl⟩ : ∃ q : Nat, n = (q : Int) := ⟨n.toNat, by omega⟩
  go_enter Tryd.func28, Tryd.ntmps28
  go_upto_region 40 with fail
  generalize w.alloc (.cells #[.int .i64 10, .int .i64 ((j : Int) + 1), .int .i64 (q : Nat), .string word, .slice A all.length c] 55) = w0 at HB HBOX c0 ⊢
  by_cases hq : q < t.size
  · have u1 : ((t.size : Int) < (q : Int)) = False := eq_false (by omega)
    have u2 : (t.size < q) = False := eq_false (by omega)
    have u3 : ((q : Int) < (t.size : Int)) = True := eq_true (by omega)
    have u4 : (q < t.size) = True := eq_true hq
    have u5 : (q ≤ t.size) = True := eq_true (by omega)
    have u6 : ((q : Int) ≤ (t.size : Int)) = True := eq_true (by omega)
    have u7 : decide (q < t.size) = true := bd hq
    have u8 : decide ((q : Int) < (t.size : Int)) = true := bd (by omega)
    obtain ⟨dd, hdd⟩ : ∃ dd : Nat, t.size = dd + q := ⟨t.size - q, by omega⟩
    have v1 : (t.size : Int) - (q : Int) = (dd : Int) := by omega
    have v2 : IntKind.i64.wrap (dd : Int) = (dd : Int) := IntWalk.i64_in _ ⟨by omega, by omega⟩
    have v3 : IntKind.i64.wrap ((t.size : Int) - (q : Int)) = (dd : Int) := by rw [v1]; exact v2
    have v4 : ((0 : Int) < (dd : Int)) = True := eq_true (by omega)
    have v5 : (0 < dd) = True := eq_true (by omega)
    have v6 : (dd ≤ t.size) = True := eq_true (by omega)
    have v7 : ((dd : Int) ≤ (t.size : Int)) = True := eq_true (by omega)
    have v8 : (t.size < dd) = False := eq_false (by omega)
    have HDD := Lib.hid hdd
    clear hdd
    refine start_ (n := 15) (S := (fun w' => BoxAt w.heap.size (.cells #[.int .i64 10, .int .i64 ((j : Int) + 1), .int .i64 (q : Nat), .string word, .slice A all.length c] 55) w' ∧ Below w.heap.size w w')) (ds := []) #[false, false, false, false, false, false, false, false, false, false, false, false, false, false, false] (by kernel_rfl) rfl rfl ⟨HBOX.out, below_drew HB.out⟩ (fun hHeld => ?_)
    refine pure_ (i := 0) (N := (some 192)) (v := ?_) (a' := ?_) #[true, false, false, false, false, false, false, false, false, false, false, false, false, false, false] rfl rfl (by kernel_rfl) (fun _ _ _ h => h) (Or.inl ⟨by rfl, ?_⟩) ?_ ?_
    rotate_left
    · intro w'
      go_simp
      with_reducible rfl
    rotate_left
    · simp only [Act.put, List.setIfInBounds_toArray, List.set_cons_zero, List.set_cons_succ]
      rfl
    refine pure_ (i := 1) (N := (some 193)) (v := ?_) (a' := ?_) #[true, true, false, false, false, false, false, false, false, false, false, false, false, false, false] rfl rfl (by kernel_rfl) (fun _ _ _ h => h) (Or.inl ⟨by rfl, ?_⟩) ?_ ?_
    rotate_left
    · intro w'
      go_simp
      with_reducible rfl
    rotate_left
    · simp only [Act.put, List.setIfInBounds_toArray, List.set_cons_zero, List.set_cons_succ]
      rfl
    refine pure_ (i := 2) (N := (some 194)) (v := ?_) (a' := ?_) #[true, true, true, false, false, false, false, false, false, false, false, false, false, false, false] rfl rfl (by kernel_rfl) (fun _ _ _ h => h) (Or.inl ⟨by rfl, ?_⟩) ?_ ?_
    rotate_left
    · intro w'
      go_simp
      with_reducible rfl
    rotate_left
    · simp only [Act.put, List.setIfInBounds_toArray, List.set_cons_zero, List.set_cons_succ]
      rfl
    refine pure_ (i := 3) (N := (some 195)) (v := ?_) (a' := ?_) #[true, true, true, true, false, false, false, false, false, false, false, false, false, false, false] rfl rfl (by kernel_rfl) (fun _ _ _ h => h) (Or.inl ⟨by rfl, ?_⟩) ?_ ?_
    rotate_left
    · intro w'
      go_simp
      with_reducible rfl
    rotate_left
    · simp only [Act.put, List.setIfInBounds_toArray, List.set_cons_zero, List.set_cons_succ]
      rfl
    refine take_ (i := 4) (N := (some 196)) (v := ?_) (a' := ?_) #[true, true, true, true, true, false, false, false, false, false, false, false, false, false, false] rfl rfl (by kernel_rfl) (fun _ _ _ h => h) (Or.inl ⟨by rfl, ?_⟩) hHeld ?_ ?_
    rotate_left
    · rintro w' ⟨s0, s1⟩
      have k2 : w'.cell? ⟨w.heap.size, 2, none⟩ = some (.int .i64 (q : Nat)) := by rw [Lib.cell_of_heap s0]; rfl
      go_simp
      with_reducible rfl
    rotate_left
    · simp only [Act.put, List.setIfInBounds_toArray, List.set_cons_zero, List.set_cons_succ]
      rfl
    refine pure_ (i := 5) (N := (some 197)) (v := ?_) (a' := ?_) #[true, true, true, true, true, true, false, false, false, false, false, false, false, false, false] rfl rfl (by kernel_rfl) (fun _ _ _ h => h) (Or.inl ⟨by rfl, ?_⟩) ?_ ?_
    rotate_left
    · intro w'
      go_simp
      with_reducible rfl
    rotate_left
    · simp only [Act.put, List.setIfInBounds_toArray, List.set_cons_zero, List.set_cons_succ]
      rfl
    refine pure_ (i := 6) (N := (some 198)) (v := ?_) (a' := ?_) #[true, true, true, true, true, true, true, false, false, false, false, false, false, false, false] rfl rfl (by kernel_rfl) (fun _ _ _ h => h) (Or.inl ⟨by rfl, ?_⟩) ?_ ?_
    rotate_left
    · intro w'
      go_simp
      with_reducible rfl
    rotate_left
    · simp only [Act.put, List.setIfInBounds_toArray, List.set_cons_zero, List.set_cons_succ]
      rfl
    refine pure_ (i := 7) (N := (some 199)) (v := ?_) (a' := ?_) #[true, true, true, true, true, true, true, true, false, false, false, false, false, false, false] rfl rfl (by kernel_rfl) (fun _ _ _ h => h) (Or.inl ⟨by rfl, ?_⟩) ?_ ?_
    rotate_left
    · intro w'
      go_simp
      with_reducible rfl
    rotate_left
    · simp only [Act.put, List.setIfInBounds_toArray, List.set_cons_zero, List.set_cons_succ]
      rfl
    refine pure_ (i := 8) (N := (some 200)) (v := ?_) (a' := ?_) #[true, true, true, true, true, true, true, true, true, false, false, false, false, false, false] rfl rfl (by kernel_rfl) (fun _ _ _ h => h) (Or.inl ⟨by rfl, ?_⟩) ?_ ?_
    rotate_left
    · intro w'
      go_simp
      with_reducible rfl
    rotate_left
    · simp only [Act.put, List.setIfInBounds_toArray, List.set_cons_zero, List.set_cons_succ]
      rfl
    refine take_ (i := 9) (N := (some 201)) (v := ?_) (a' := ?_) #[true, true, true, true, true, true, true, true, true, true, false, false, false, false, false] rfl rfl (by kernel_rfl) (fun _ _ _ h => h) (Or.inl ⟨by rfl, ?_⟩) hHeld ?_ ?_
    rotate_left
    · rintro w' ⟨s0, s1⟩
      have k2 : w'.cell? ⟨w.heap.size, 2, none⟩ = some (.int .i64 (q : Nat)) := by rw [Lib.cell_of_heap s0]; rfl
      go_simp
      with_reducible rfl
    rotate_left
    · simp only [Act.put, List.setIfInBounds_toArray, List.set_cons_zero, List.set_cons_succ]
      rfl
    refine pure_ (i := 10) (N := (some 202)) (v := ?_) (a' := ?_) #[true, true, true, true, true, true, true, true, true, true, true, false, false, false, false] rfl rfl (by kernel_rfl) (fun _ _ _ h => h) (Or.inl ⟨by rfl, ?_⟩) ?_ ?_
    rotate_left
    · intro w'
      go_simp
      with_reducible rfl
    rotate_left
    · simp only [Act.put, List.setIfInBounds_toArray, List.set_cons_zero, List.set_cons_succ]
      rfl
    refine pure_ (i := 11) (N := (some 203)) (v := ?_) (a' := ?_) #[true, true, true, true, true, true, true, true, true, true, true, true, false, false, false] rfl rfl (by kernel_rfl) (fun _ _ _ h => h) (Or.inl ⟨by rfl, ?_⟩) ?_ ?_
    rotate_left
    · intro w'
      go_simp
      with_reducible rfl
    rotate_left
    · simp only [Act.put, List.setIfInBounds_toArray, List.set_cons_zero, List.set_cons_succ]
      rfl
    refine pure_ (i := 12) (N := (some 204)) (v := ?_) (a' := ?_) #[true, true, true, true, true, true, true, true, true, true, true, true, true, false, false] rfl rfl (by kernel_rfl) (fun _ _ _ h => h) (Or.inl ⟨by rfl, ?_⟩) ?_ ?_
    rotate_left
    · intro w'
      go_simp
      with_reducible rfl
    rotate_left
    · simp only [Act.put, List.setIfInBounds_toArray, List.set_cons_zero, List.set_cons_succ]
      rfl
    refine pure_ (i := 13) (N := (some 4)) (v := ?_) (a' := ?_) #[true, true, true, true, true, true, true, true, true, true, true, true, true, true, false] rfl rfl (by kernel_rfl) (fun _ _ _ h => h) (Or.inl ⟨by rfl, ?_⟩) ?_ ?_
    rotate_left
    · intro w'
      go_simp
      with_reducible rfl
    rotate_left
    · simp only [Act.put, List.setIfInBounds_toArray, List.set_cons_zero, List.set_cons_succ]
      rfl
    refine pure_ (i := 14) (N := (some 5)) (v := ?_) (a' := ?_) #[true, true, true, true, true, true, true, true, true, true, true, true, true, true, true] rfl rfl (by kernel_rfl) (fun _ _ _ h => h) (Or.inl ⟨by rfl, ?_⟩) ?_ ?_
    rotate_left
    · intro w'
      go_simp
      with_reducible rfl
    rotate_left
    · simp only [Act.put, List.setIfInBounds_toArray, List.set_cons_zero, List.set_cons_succ]
      rfl
    refine done_ (by kernel_rfl) ?_
    go_wp2_with fail
    go_ret2
    exact ⟨⟨_, _, rfl, put_weak (by show ByteArray.size _ ≤ 100; (try simp only [ByteArray.size_append, ByteArray.size_extract, show (⟨#[46]⟩ : ByteArray).size = 1 from rfl]); omega) (by show ¬ ((10 : Int) = 0); decide) (by show ¬ ((10 : Int) = 1); decide) (by show ¬ ((10 : Int) = 2); decide)⟩, hHeld.2⟩
  · have u1 : ((q : Int) < (t.size : Int)) = False := eq_false (by omega)
    have u2 : (q < t.size) = False := eq_false hq
    have u7 : decide (q < t.size) = false := nd hq
    have u8 : decide ((q : Int) < (t.size : Int)) = false := nd (by omega)
    obtain ⟨ee, hee⟩ : ∃ ee : Int, (t.size : Int) - (q : Int) = ee := ⟨_, rfl⟩
    have v2 : IntKind.i64.wrap ee = ee := IntWalk.i64_in _ ⟨by omega, by omega⟩
    have v3 : IntKind.i64.wrap ((t.size : Int) - (q : Int)) = ee := by rw [hee]; exact v2
    have v4 : ((0 : Int) < ee) = False := eq_false (by omega)
    refine start_ (n := 15) (S := (fun w' => BoxAt w.heap.size (.cells #[.int .i64 10, .int .i64 ((j : Int) + 1), .int .i64 (q : Nat), .string word, .slice A all.length c] 55) w' ∧ Below w.heap.size w w')) (ds := []) #[false, false, false, false, false, false, false, false, false, false, false, false, false, false, false] (by kernel_rfl) rfl rfl ⟨HBOX.out, below_drew HB.out⟩ (fun hHeld => ?_)
    refine pure_ (i := 0) (N := (some 192)) (v := ?_) (a' := ?_) #[true, false, false, false, false, false, false, false, false, false, false, false, false, false, false] rfl rfl (by kernel_rfl) (fun _ _ _ h => h) (Or.inl ⟨by rfl, ?_⟩) ?_ ?_
    rotate_left
    · intro w'
      go_simp
      with_reducible rfl
    rotate_left
    · simp only [Act.put, List.setIfInBounds_toArray, List.set_cons_zero, List.set_cons_succ]
      rfl
    refine pure_ (i := 1) (N := (some 193)) (v := ?_) (a' := ?_) #[true, true, false, false, false, false, false, false, false, false, false, false, false, false, false] rfl rfl (by kernel_rfl) (fun _ _ _ h => h) (Or.inl ⟨by rfl, ?_⟩) ?_ ?_
    rotate_left
    · intro w'
      go_simp
      with_reducible rfl
    rotate_left
    · simp only [Act.put, List.setIfInBounds_toArray, List.set_cons_zero, List.set_cons_succ]
      rfl
    refine pure_ (i := 2) (N := (some 194)) (v := ?_) (a' := ?_) #[true, true, true, false, false, false, false, false, false, false, false, false, false, false, false] rfl rfl (by kernel_rfl) (fun _ _ _ h => h) (Or.inl ⟨by rfl, ?_⟩) ?_ ?_
    rotate_left
    · intro w'
      go_simp
      with_reducible rfl
    rotate_left
    · simp only [Act.put, List.setIfInBounds_toArray, List.set_cons_zero, List.set_cons_succ]
      rfl
    refine pure_ (i := 3) (N := (some 195)) (v := ?_) (a' := ?_) #[true, true, true, true, false, false, false, false, false, false, false, false, false, false, false] rfl rfl (by kernel_rfl) (fun _ _ _ h => h) (Or.inl ⟨by rfl, ?_⟩) ?_ ?_
    rotate_left
    · intro w'
      go_simp
      with_reducible rfl
    rotate_left
    · simp only [Act.put, List.setIfInBounds_toArray, List.set_cons_zero, List.set_cons_succ]
      rfl
    refine take_ (i := 4) (N := (some 196)) (v := ?_) (a' := ?_) #[true, true, true, true, true, false, false, false, false, false, false, false, false, false, false] rfl rfl (by kernel_rfl) (fun _ _ _ h => h) (Or.inl ⟨by rfl, ?_⟩) hHeld ?_ ?_
    rotate_left
    · rintro w' ⟨s0, s1⟩
      have k2 : w'.cell? ⟨w.heap.size, 2, none⟩ = some (.int .i64 (q : Nat)) := by rw [Lib.cell_of_heap s0]; rfl
      go_simp
      with_reducible rfl
    rotate_left
    · simp only [Act.put, List.setIfInBounds_toArray, List.set_cons_zero, List.set_cons_succ]
      rfl
    refine pure_ (i := 5) (N := (some 197)) (v := ?_) (a' := ?_) #[true, true, true, true, true, true, false, false, false, false, false, false, false, false, false] rfl rfl (by kernel_rfl) (fun _ _ _ h => h) (Or.inl ⟨by rfl, ?_⟩) ?_ ?_
    rotate_left
    · intro w'
      go_simp
      with_reducible rfl
    rotate_left
    · simp only [Act.put, List.setIfInBounds_toArray, List.set_cons_zero, List.set_cons_succ]
      rfl
    refine pure_ (i := 6) (N := (some 198)) (v := ?_) (a' := ?_) #[true, true, true, true, true, true, true, false, false, false, false, false, false, false, false] rfl rfl (by kernel_rfl) (fun _ _ _ h => h) (Or.inl ⟨by rfl, ?_⟩) ?_ ?_
    rotate_left
    · intro w'
      go_simp
      with_reducible rfl
    rotate_left
    · simp only [Act.put, List.setIfInBounds_toArray, List.set_cons_zero, List.set_cons_succ]
      rfl
    refine pure_ (i := 7) (N := (some 199)) (v := ?_) (a' := ?_) #[true, true, true, true, true, true, true, true, false, false, false, false, false, false, false] rfl rfl (by kernel_rfl) (fun _ _ _ h => h) (Or.inl ⟨by rfl, ?_⟩) ?_ ?_
    rotate_left
    · intro w'
      go_simp
      with_reducible rfl
    rotate_left
    · simp only [Act.put, List.setIfInBounds_toArray, List.set_cons_zero, List.set_cons_succ]
      rfl
    refine pure_ (i := 8) (N := (some 200)) (v := ?_) (a' := ?_) #[true, true, true, true, true, true, true, true, true, false, false, false, false, false, false] rfl rfl (by kernel_rfl) (fun _ _ _ h => h) (Or.inl ⟨by rfl, ?_⟩) ?_ ?_
    rotate_left
    · intro w'
      go_simp
      with_reducible rfl
    rotate_left
    · simp only [Act.put, List.setIfInBounds_toArray, List.set_cons_zero, List.set_cons_succ]
      rfl
    refine take_ (i := 9) (N := (some 201)) (v := ?_) (a' := ?_) #[true, true, true, true, true, true, true, true, true, true, false, false, false, false, false] rfl rfl (by kernel_rfl) (fun _ _ _ h => h) (Or.inl ⟨by rfl, ?_⟩) hHeld ?_ ?_
    rotate_left
    · rintro w' ⟨s0, s1⟩
      have k2 : w'.cell? ⟨w.heap.size, 2, none⟩ = some (.int .i64 (q : Nat)) := by rw [Lib.cell_of_heap s0]; rfl
      go_simp
      with_reducible rfl
    rotate_left
    · simp only [Act.put, List.setIfInBounds_toArray, List.set_cons_zero, List.set_cons_succ]
      rfl
    refine pure_ (i := 10) (N := (some 202)) (v := ?_) (a' := ?_) #[true, true, true, true, true, true, true, true, true, true, true, false, false, false, false] rfl rfl (by kernel_rfl) (fun _ _ _ h => h) (Or.inl ⟨by rfl, ?_⟩) ?_ ?_
    rotate_left
    · intro w'
      go_simp
      with_reducible rfl
    rotate_left
    · simp only [Act.put, List.setIfInBounds_toArray, List.set_cons_zero, List.set_cons_succ]
      rfl
    refine pure_ (i := 11) (N := (some 203)) (v := ?_) (a' := ?_) #[true, true, true, true, true, true, true, true, true, true, true, true, false, false, false] rfl rfl (by kernel_rfl) (fun _ _ _ h => h) (Or.inl ⟨by rfl, ?_⟩) ?_ ?_
    rotate_left
    · intro w'
      go_simp
      with_reducible rfl
    rotate_left
    · simp only [Act.put, List.setIfInBounds_toArray, List.set_cons_zero, List.set_cons_succ]
      rfl
    refine pure_ (i := 12) (N := (some 204)) (v := ?_) (a' := ?_) #[true, true, true, true, true, true, true, true, true, true, true, true, true, false, false] rfl rfl (by kernel_rfl) (fun _ _ _ h => h) (Or.inl ⟨by rfl, ?_⟩) ?_ ?_
    rotate_left
    · intro w'
      go_simp
      with_reducible rfl
    rotate_left
    · simp only [Act.put, List.setIfInBounds_toArray, List.set_cons_zero, List.set_cons_succ]
      rfl
    refine pure_ (i := 13) (N := (some 4)) (v := ?_) (a' := ?_) #[true, true, true, true, true, true, true, true, true, true, true, true, true, true, false] rfl rfl (by kernel_rfl) (fun _ _ _ h => h) (Or.inl ⟨by rfl, ?_⟩) ?_ ?_
    rotate_left
    · intro w'
      go_simp
      with_reducible rfl
    rotate_left
    · simp only [Act.put, List.setIfInBounds_toArray, List.set_cons_zero, List.set_cons_succ]
      rfl
    refine pure_ (i := 14) (N := (some 5)) (v := ?_) (a' := ?_) #[true, true, true, true, true, true, true, true, true, true, true, true, true, true, true] rfl rfl (by kernel_rfl) (fun _ _ _ h => h) (Or.inl ⟨by rfl, ?_⟩) ?_ ?_
    rotate_left
    · intro w'
      go_simp
      with_reducible rfl
    rotate_left
    · simp only [Act.put, List.setIfInBounds_toArray, List.set_cons_zero, List.set_cons_succ]
      rfl
    refine done_ (by kernel_rfl) ?_
    go_wp2_with fail
    go_ret2
    exact ⟨⟨_, _, rfl, put_weak (by show ByteArray.size _ ≤ 100; (try simp only [ByteArray.size_append, ByteArray.size_extract, show (⟨#[46]⟩ : ByteArray).size = 1 from rfl]); omega) (by show ¬ ((10 : Int) = 0); decide) (by show ¬ ((10 : Int) = 1); decide) (by show ¬ ((10 : Int) = 2); decide)⟩, hHeld.2⟩
theorem put_any (p : Pc) (A C : Option Addr) (c d : Nat) (ss : List ByteArray) (w : World) (hI : IsA w A p.all) (hC : WsA w C ss) (hs : (0 ≤ p.fn ∧ p.fn ≤ 10) ∧ p.all.length ≤ 5 ∧ p.word.size ≤ 20) (hR : RightP ss.length p) (hz : ∀ t ∈ ss, t.size ≤ 20) (hl : ss.length ≤ 8) : Calls Tryd.prog 28 #[pcV p A c, .slice C ss.length d] w fun e w' => PutR p ss w e w' := by
  obtain ⟨fn, at_, n, word, all⟩ := p
  obtain ⟨⟨h0, h10⟩, ha, hw⟩ := hs
  dsimp only at hI h0 h10 ha hw
  have hq : fn = 0 ∨ fn = 1 ∨ fn = 2 ∨ fn = 3 ∨ fn = 4 ∨ fn = 5 ∨ fn = 6 ∨ fn = 7 ∨ fn = 8 ∨ fn = 9 ∨ fn = 10 := by omega
  rcases hq with rfl | rfl | rfl | rfl | rfl | rfl | rfl | rfl | rfl | rfl | rfl
  · exact put0_any at_ n word all A C c d ss w hI hC hR hz hl ha hw
  · exact put1_any at_ n word all A C c d ss w hI hC hR hz hl ha hw
  · exact put2_any at_ n word all A C c d ss w hI hC hR hz hl ha hw
  · exact put3_any at_ n word all A C c d ss w hI hC hR hz hl ha hw
  · exact put4_any at_ n word all A C c d ss w hI hC hR hz hl ha hw
  · exact put5_any at_ n word all A C c d ss w hI hC hR hz hl ha hw
  · exact put6_any at_ n word all A C c d ss w hI hC hR hz hl ha hw
  · exact put7_any at_ n word all A C c d ss w hI hC hR hz hl ha hw
  · exact put8_any at_ n word all A C c d ss w hI hC hR hz hl ha hw
  · exact put9_any at_ n word all A C c d ss w hI hC hR hz hl ha hw
  · exact put10_any at_ n word all A C c d ss w hI hC hR hz hl ha hw
end Go.Proofs.YtpiceaehfpljnaaDoor
