/- FnMapWrong: a mapping that asks for what there is not is refused. -/
import Derived.Test.YtpiceaehfpljnaaDoorMpLL
import Derived.Deep.Strs
namespace Go.Proofs.YtpiceaehfpljnaaDoor
open Go.RowKit Mp
attribute [local go_sem ↓] Go.wp_at_zero Go.wp_at_succ
set_option linter.unusedVariables false
set_option linter.unusedSimpArgs false
set_option maxRecDepth 1000000
set_option maxHeartbeats 8000000

theorem sf_facts {t : ByteArray} (h : t.size = 0 ∨ WordOk t) (h20 : t.size ≤ 20) : 0 < (sf t).size ∧ (sf t).size ≤ 20 ∧ sf t ≠ gtS ∧ NoDot (sf t) ∧ (sf t = starS ↔ t.size = 0) := by
  unfold sf
  by_cases h0 : t.size = 0
  · rw [if_pos h0]
    exact ⟨by decide, by decide, by decide, nodot_of (by decide), fun _ => h0, fun _ => rfl⟩
  · rw [if_neg h0]
    have hw := h.resolve_left h0
    have hb := hw.2 0 hw.1
    refine ⟨hw.1, h20, fun e => ?_, nodot_of (fun i hi => ?_), fun e => ?_, fun e => absurd e h0⟩
    · rw [e] at hb
      exact absurd hb (by unfold okc; decide)
    · have := hw.2 i hi
      unfold okc at this
      omega
    · rw [e] at hb
      exact absurd hb (by unfold okc; decide)
/-- What the reference's source gives. -/
structure SrcF (l : List ByteArray) (s : ByteArray) : Prop where
  z : 0 < s.size ∧ s.size ≤ 1000000
  v : Val (toks s)
  n : (toks s).length < 1000
  st : stars (toks s) = cnt l
  f : hasF (toks s) = false
theorem src_facts {l : List ByteArray} {s : ByteArray} {n : Int} (h : SrcQ l s n) (hS : SmallW l) : SrcF l s := by
  obtain ⟨hne, hw, rfl, _⟩ := h
  have hm : ∀ o ∈ l.map sf, 0 < o.size ∧ o.size ≤ 20 ∧ o ≠ gtS ∧ NoDot o := fun o ho => by
    obtain ⟨t, ht, rfl⟩ := List.mem_map.1 ho
    obtain ⟨a, b, c, d, _⟩ := sf_facts (hw t ht) (hS.2 t ht)
    exact ⟨a, b, c, d⟩
  have htk : toks (joinB (l.map sf)) = l.map sf := join_toks _ (by simpa using hne) (fun t ht => (hm t ht).2.2.2)
  have hsz := srcK_len l hS l.length
  unfold srcK at hsz
  rw [List.take_length] at hsz
  refine ⟨⟨?_, by omega⟩, ?_, ?_, ?_, ?_⟩
  · by_cases h0 : 0 < (joinB (l.map sf)).size
    · exact h0
    · have e : joinB (l.map sf) = strOf [] := by
        rw [← strOf_toList (joinB (l.map sf))]
        congr 1
        exact List.eq_nil_of_length_eq_zero (by rw [size_list]; omega)
      rw [e] at htk
      have hmem : strOf [] ∈ l.map sf := by rw [← htk]; exact List.mem_cons_self
      exact absurd (hm _ hmem).1 (by decide)
  · rw [htk]
    exact fun k hk => ⟨(hm _ (List.getElem_mem hk)).1, fun e => absurd e (hm _ (List.getElem_mem hk)).2.2.1⟩
  · rw [htk, List.length_map]
    have := hS.1
    omega
  · rw [htk]
    unfold stars cnt
    rw [List.countP_map]
    refine List.countP_congr (fun t ht => ?_)
    have := (sf_facts (hw t ht) (hS.2 t ht)).2.2.2.2
    simp only [Function.comp, decide_eq_true_eq]
    exact this
  · rw [htk]
    unfold hasF
    exact decide_eq_false (fun e => (hm _ (List.mem_of_getLast? e)).2.2.1 rfl)
theorem brk_ne {t : ByteArray} (h : Brk t) : 0 < t.size ∧ t ≠ gtS ∧ t ≠ starS := by
  have hz := h.m.z
  refine ⟨by omega, fun e => ?_, fun e => ?_⟩
  · rw [e] at hz; exact absurd hz (by decide)
  · rw [e] at hz; exact absurd hz (by decide)
theorem wrong_new {l : List ByteArray} {s d t : ByteArray} (hF : SrcF l s) (hD : DstQ (cnt l) d t) (w : World) (hSur : Sur w) : Calls Tryd.prog 32 #[.string s, .string d, .bool false] w fun e w' => ErrP w e w' := by
  have hb := brk_ne hD.b
  have ha : aS ≠ gtS ∧ aS ≠ starS := by decide
  have htk := hD.tk
  refine new_bad s d hF.z hD.z hF.v ?_ ⟨hF.n, by rw [htk]; show 2 < 1000; decide⟩ ?_ ?_ [⟨0, [-1], -1⟩] (by rw [htk]; rfl) ?_ ?_ w hSur
  · rw [htk]
    intro k hk
    match k, hk with
    | 0, _ => exact ⟨(by decide : 0 < aS.size), fun e => absurd e ha.1⟩
    | 1, _ => exact ⟨hb.1, fun e => absurd e hb.2.1⟩
    | k + 2, hk => exact absurd hk (by simp)
  · rw [htk]
    unfold stars
    rw [List.countP_eq_zero]
    intro x hx
    simp only [List.mem_cons, List.not_mem_nil, or_false] at hx
    rcases hx with rfl | rfl
    · decide
    · simpa using hb.2.2
  · rw [hF.f, htk]
    unfold hasF
    exact decide_eq_false (fun e => hb.2.1 (Option.some.inj e))
  · intro h
    have e : (toks d)[[(⟨0, [-1], -1⟩ : Ph)].length] = t := by simp only [htk]; rfl
    rw [e, hF.st, hF.f]
    exact hD.h
  · intro k h h'
    match k, h' with
    | 0, _ =>
      refine Or.inl ⟨rfl, ?_⟩
      have e : (toks d)[0] = aS := by simp only [htk]; rfl
      rw [e]
      exact ph_word aS (by decide) (by decide) (by decide)
    | k + 1, h' => exact absurd h' (by simp)

/-- FnMapWrong. -/
theorem wrong_law (A : Option Addr) (c : Nat) (l : List ByteArray) (n : Int) (unknown : Bool) (w : World) (hA : WsA w A l) (hSur : Sur w) :
    Calls Tryd.prog 5 #[.slice A l.length c, .int .i64 n, .bool unknown] w fun e w' => e = .returned (.bool true) ∧ Below w.heap.size w w' := by
  have HS := Lib.hid hSur
  have HF := Lib.hid (fits_any A c l w hA)
  have HM := Lib.hid (small_any A c l w hA)
  have HW := Lib.hid (fun (hS : SmallW l) => wrong_any A c l n unknown w hA hS)
  clear hSur hA
  go_enter Tryd.func5, Tryd.ntmps5
  go_wp2_with fail
  refine HF.out.mono ?_
  rintro e w1 ⟨b, rfl, rfl⟩
  cases b with
  | false =>
    go_wp2_with fail
    go_ret
    exact ⟨rfl, Below.refl _ _⟩
  | true =>
  go_wp2_with fail
  refine HM.out.mono ?_
  rintro e w2 ⟨⟨b, rfl, hb⟩, rfl⟩
  have HSM := Lib.hid hb
  clear hb
  cases b with
  | false =>
    go_wp2_with fail
    refine (awake_any w2 HS.out).mono ?_
    rintro e w3 ⟨rfl, hB⟩
    have HB2 := Lib.hid hB
    clear hB
    go_wp2_with fail
    go_ret
    exact ⟨rfl, HB2.out⟩
  | true =>
  go_wp2_with fail
  refine (HW.out (HSM.out trivial)).mono ?_
  rintro e w3 ⟨⟨s, d, ok, rfl, hok⟩, hB⟩
  have HB3 := Lib.hid hB
  have HOK := Lib.hid hok
  clear hB hok
  cases ok with
  | false =>
    go_wp2_with fail
    refine (awake_any w3 (HS.out.later HB3.out)).mono ?_
    rintro e w4 ⟨rfl, hB⟩
    have HB4 := Lib.hid (HB3.out.trans (hB.mono HB3.out.size))
    clear hB
    go_wp2_with fail
    go_ret
    exact ⟨rfl, HB4.out⟩
  | true =>
  obtain ⟨nn, hnn, hn, hsq, hd⟩ := HOK.out rfl
  have HSF := Lib.hid (src_facts hsq (HSM.out trivial))
  obtain ⟨t, hDQ⟩ : ∃ t, DstQ (cnt l) d t := by
    rcases hd with ⟨_, rfl, h⟩ | ⟨_, rfl⟩
    · exact ⟨_, dst_unk _ h⟩
    · exact ⟨_, dst_wld _ _ hn (by have := cnt_le' l; have := (HSM.out trivial).1; omega)⟩
  have HD := Lib.hid hDQ
  clear hDQ hd hsq hn hnn HOK
  go_wp2_with fail
  refine (map_bad s d ⟨#[97]⟩ w3 (wrong_new HSF.out HD.out w3 (HS.out.later HB3.out))).mono ?_
  rintro e w4 ⟨rfl, hB⟩
  have HB4 := Lib.hid (HB3.out.trans (hB.mono HB3.out.size))
  clear hB
  go_wp2_with fail
  refine (vm_bad s d w4 (val_bad s d aS t HD.out.tk HD.out.z a_plain HD.out.b HD.out.f (fun W hW => nst_bad s d W (wrong_new HSF.out HD.out W hW)) w4 (HS.out.later HB4.out))).mono ?_
  rintro e w5 ⟨rfl, hB⟩
  have HB5 := Lib.hid (HB4.out.trans (hB.mono HB4.out.size))
  clear hB
  go_wp2_with fail
  refine (awake_any w5 (HS.out.later HB5.out)).mono ?_
  rintro e w6 ⟨rfl, hB⟩
  have HB6 := Lib.hid (HB5.out.trans (hB.mono HB5.out.size))
  clear hB
  go_wp2_with fail
  go_ret
  exact ⟨rfl, HB6.out⟩

section
open Go.ChangeShapes Go.WideShapes
variable {H : Type} {enc : TypeId × Value → H} {w : World} {spare : Nat → Bool} {held : Bool}
/-- Words, opened. -/
theorem open_words {v : Value} {d : DataW H} {p : List MemPlace} (hv : ∃ a len cap, v = .slice a len cap) (h : DataW.Trod enc Tryd.prog w 0 spare held 23 v d p) :
    ∃ (l : List ByteArray) (a : Option Addr) (cap : Nat), v = .slice a l.length cap ∧ l.length ≤ cap ∧ WsA w a l := by
  obtain ⟨a, len, cap, rfl⟩ := hv
  obtain ⟨fuel, hf⟩ := h
  rcases Deep.open_strs Tryd.underlying23 Tryd.underlying9 (by kernel_rfl) hf with ⟨hcs, _⟩ | ⟨b, len', cap', m, Sx, hcs, _, hl, hm, hmm, _, hx⟩
  · have := List.singleton_inj.1 hcs
    obtain ⟨rfl, rfl, rfl⟩ : a = none ∧ len = 0 ∧ cap = 0 := by simpa using this
    exact ⟨[], none, 0, rfl, Nat.le_refl _, Nat.zero_le _, fun i h => absurd h (Nat.not_lt_zero _)⟩
  · obtain ⟨rfl, rfl, rfl⟩ : a = some b ∧ len = len' ∧ cap = cap' := by simpa [Value.cells] using List.singleton_inj.1 hcs
    have hlm : len ≤ m := by rw [hmm]; split <;> omega
    refine ⟨(List.range len).map Sx, some b, cap, by simp, by simpa using hl, by simp; omega, fun i hi => ?_⟩
    have hi2 : i < len := by simpa using hi
    refine ⟨b, rfl, ?_⟩
    rw [(hx i (by omega)).1]
    simp
end
end Go.Proofs.YtpiceaehfpljnaaDoor
