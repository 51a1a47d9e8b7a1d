/- FnDNBack, where what it reads is of bulk at most 1048576: the law returns true, and its argument reads as it did. The listed variables are tied to the program's text; the walk reads none of them. -/
import Derived.Test.YtdacmcbipnnneaaDoorCards
import Derived.Test.YtdacmcbipnnneaaDoorTie
import Derived.Test.YtdacmcbipnnneaaDoorDnPZ
import Derived.ProofKit
import Derived.OpenShut
import Derived.LaidMore
import Derived.Lay
import Derived.SevenTiedAt
import Derived.Stop.Joined
import Derived.ChangeOld
import Derived.Carry
import Derived.Deep.DeepHandedRow
namespace Go.Proofs.YtdacmcbipnnneaaDoor.fnDNBack
open Go.ChangeShapes Go.WideShapes Go.ChangeAt Go.RowKit Go.Deep
open Go.ChangeMaps (open_string shut_string)

open Go.Proofs.YtdacmcbipnnneaaDoorW.PrintWords Go.Proofs.YtdacmcbipnnneaaDoor.PXD
theorem laidOut : laidOutB Tryd.prog = true := by kernel_rfl
theorem own : ownKnob Tryd.prog.godebug = none := by kernel_rfl

theorem one_le {H : Type} (d : DataW H) : 1 ≤ Rows.uptoBulk d := by
  cases d with
  | lit l => cases l <;> simp [Rows.uptoBulk]
  | nil => simp [Rows.uptoBulk]
  | ptr d => simp [Rows.uptoBulk]
  | slice elems spare => simp [Rows.uptoBulk]
  | agg parts => simp [Rows.uptoBulk]
  | iface t d => simp [Rows.uptoBulk]
  | map entries => simp [Rows.uptoBulk]
  | held h => simp [Rows.uptoBulk]
theorem part_le {H : Type} {d : DataW H} {l : List (DataW H)} (h : d ∈ l) : Rows.uptoBulk d ≤ Rows.uptoBulkAll l := by
  induction l with
  | nil => cases h
  | cons x r ih =>
    simp only [Rows.uptoBulkAll]
    cases List.mem_cons.1 h with
    | inl e => subst e; omega
    | inr e => have := ih e; omega
theorem length_le {H : Type} (l : List (DataW H)) : l.length ≤ Rows.uptoBulkAll l := by
  induction l with
  | nil => simp [Rows.uptoBulkAll]
  | cons x r ih => have := one_le x; simp only [Rows.uptoBulkAll, List.length_cons]; omega
theorem of_slice {H : Type} {e s : List (DataW H)} : Rows.uptoBulkAll e ≤ Rows.uptoBulk (DataW.slice e s) := by simp only [Rows.uptoBulk]; omega

section
variable {H : Type} {enc : TypeId × Value → H} {w : World} {spare : Nat → Bool} {held : Bool}
/-- A row, opened, and how long it is. -/
theorem open_row_bulk {fuel : Nat} {v : Value} {x : DataW H × List MemPlace} (h : DataW.trod enc Tryd.prog w 0 spare held fuel 31 [v] = some x) :
    ∃ xs : List S34, (Kd.slice 34 k34).K w xs [v] ∧ xs.length ≤ Rows.uptoBulk x.1 ∧ ∀ y ∈ xs, y.f0.size ≤ Rows.uptoBulk x.1 ∧ y.f1.size ≤ Rows.uptoBulk x.1 := by
  rcases open_slice_pairs Tryd.underlying31 Tryd.underlying34 (by kernel_rfl) rfl rfl (by kernel_rfl) (by kernel_rfl) h with ⟨hcs, _⟩ | ⟨a, len, cap, m, n, V0, V1, D0, D1, P0, P1, hcs, _, hl, hm, hmm, hxe, hx⟩
  · exact ⟨[], ⟨none, 0, hcs, Nat.le_refl _, rfl, Nat.zero_le _, fun h => absurd h (Nat.lt_irrefl _)⟩, Nat.zero_le _, fun y hy => by cases hy⟩
  · have hb : ∀ i, i < len → Rows.uptoBulk (DataW.agg [D0 i, D1 i]) ≤ Rows.uptoBulk x.1 := by
      intro i hi
      rw [hxe]
      exact Nat.le_trans (part_le (List.mem_map.2 ⟨i, List.mem_range.2 hi, rfl⟩)) of_slice
    obtain ⟨xs, hxl, hxs⟩ := list_of (n := len) (p := fun i (y : S34) => V0 i = .string y.f0 ∧ V1 i = .string y.f1 ∧ y.f0.size ≤ Rows.uptoBulk x.1 ∧ y.f1.size ≤ Rows.uptoBulk x.1) (fun i hi => by
      obtain ⟨_, _, h3, h4⟩ := hx i (by rw [hmm]; split <;> omega)
      obtain ⟨s0, e0, d0, _⟩ := DataW.trod_string Tryd.underlying9 h3
      obtain ⟨s1, e1, d1, _⟩ := DataW.trod_string Tryd.underlying9 h4
      have hbi := hb i hi
      injection d0 with d0 _
      injection d1 with d1 _
      rw [d0, d1] at hbi
      simp only [Rows.uptoBulk, Rows.uptoBulkAll] at hbi
      have z0 : s0.data.toList.length = s0.size := by simp
      have z1 : s1.data.toList.length = s1.size := by simp
      exact ⟨⟨s0, s1⟩, List.singleton_inj.1 e0, List.singleton_inj.1 e1, by show s0.size ≤ _; omega, by show s1.size ≤ _; omega⟩)
    refine ⟨xs, ⟨some a, cap, by rw [hxl]; exact hcs, by omega, rfl, ?_, fun _ => ⟨a, rfl, fun j p hp => ⟨[.string p.f0, .string p.f1], rfl, ⟨[.string p.f0], [.string p.f1], rfl, rfl, rfl⟩, fun i u hu => ?_⟩⟩⟩, ?_, ?_⟩
    · rw [hxl]; unfold maxLen at hm; omega
    · obtain ⟨hj, _⟩ := List.getElem?_eq_some_iff.1 hp
      obtain ⟨h1, h2, _⟩ := hx j (by rw [hmm]; split <;> omega)
      obtain ⟨e0, e1, _⟩ := hxs j p hp
      rw [e0] at h1
      rw [e1] at h2
      rcases i with _ | _ | i
      · simp at hu; subst hu; exact h1
      · simp at hu; subst hu; exact h2
      · simp at hu
    · rw [hxe, hxl]
      refine Nat.le_trans ?_ of_slice
      refine Nat.le_trans ?_ (length_le _)
      simp
    · intro y hy
      obtain ⟨j, hj⟩ := List.mem_iff_getElem?.1 hy
      exact (hxs j y hj).2.2

/-- A name, opened, and how long it is. -/
theorem open_dn_bulk {v : Value} {d : DataW H} {p : List MemPlace} (hv : ∃ a len cap, v = .slice a len cap) (h : DataW.Trod enc Tryd.prog w 0 spare held 22 v d p) :
    ∃ (l : List (List S34)) (a : Option Addr) (cap : Nat), v = .slice a l.length cap ∧ l.length ≤ cap ∧ Kd.C (Kd.slice 34 k34) w a l.length l ∧ (Rows.uptoBulk d ≤ 1048576 → Short l) := by
  obtain ⟨a, len, cap, rfl⟩ := hv
  obtain ⟨fuel, hf⟩ := h
  rcases open_slice1 Tryd.underlying22 (by kernel_rfl) hf with ⟨hcs, _⟩ | ⟨b, len', cap', m, n, V, D, Pl, hcs, _, hl, hm, hmm, hxe, hx⟩
  · have := List.singleton_inj.1 hcs
    obtain ⟨rfl, rfl, rfl⟩ : a = none ∧ len = 0 ∧ cap = 0 := by simpa using this
    exact ⟨[], none, 0, rfl, Nat.le_refl _, ⟨rfl, Nat.zero_le _, fun h => absurd h (Nat.lt_irrefl _)⟩, fun _ => ⟨Nat.zero_le _, fun r hr => by cases hr⟩⟩
  · obtain ⟨rfl, rfl, rfl⟩ : a = some b ∧ len = len' ∧ cap = cap' := by simpa [Value.cells] using List.singleton_inj.1 hcs
    injection hxe with hd _
    have hb : ∀ i, i < len → Rows.uptoBulk (D i) ≤ Rows.uptoBulk d := by
      intro i hi
      rw [hd]
      exact Nat.le_trans (part_le (List.mem_map.2 ⟨i, List.mem_range.2 hi, rfl⟩)) of_slice
    obtain ⟨l, hll, hls⟩ := list_of (n := len) (p := fun i (y : List S34) => w.cell? (b.add i) = some (V i) ∧ (Kd.slice 34 k34).K w y [V i] ∧ y.length ≤ Rows.uptoBulk d ∧ ∀ z ∈ y, z.f0.size ≤ Rows.uptoBulk d ∧ z.f1.size ≤ Rows.uptoBulk d) (fun i hi => by
      obtain ⟨h1, h2⟩ := hx i (by rw [hmm]; split <;> omega)
      obtain ⟨xs, hk, hxl, hxs⟩ := open_row_bulk h2
      have := hb i hi
      exact ⟨xs, h1, hk, Nat.le_trans hxl this, fun z hz => ⟨Nat.le_trans (hxs z hz).1 this, Nat.le_trans (hxs z hz).2 this⟩⟩)
    refine ⟨l, some b, cap, by rw [hll], by omega, ⟨rfl, by rw [hll]; unfold maxLen at hm; omega, fun _ => ⟨b, rfl, fun j q hq => ?_⟩⟩, fun hsm => ⟨?_, fun r hr => ?_⟩⟩
    · obtain ⟨hc, hk, _⟩ := hls j q hq
      refine ⟨[V j], rfl, hk, fun i u hu => ?_⟩
      rcases i with _ | i
      · simp at hu; subst hu
        show w.cell? (b.add (j * 1 + 0)) = _
        simpa using hc
      · simp at hu
    · have : len ≤ Rows.uptoBulk d := by
        rw [hd]
        refine Nat.le_trans ?_ of_slice
        refine Nat.le_trans ?_ (length_le _)
        simp
      omega
    · obtain ⟨j, hj⟩ := List.mem_iff_getElem?.1 hr
      obtain ⟨_, _, h1, h2⟩ := hls j r hj
      exact ⟨by omega, fun z hz => by have := h2 z hz; omega⟩
end

theorem witness_row_shaped {H : Type} {enc : TypeId × Value → H} {C : Checked} {os : Os} {f : FuncId} {fn : Func} {s : OpenSpec} {conds : List PathCond} {apart : Bool} {laid : List (String × DataW Unit)} (modest : Bool) (w0 : World) (args : Array Value) (hos : w0.os = os)
    (hsh : (w0.forCall (fun _ _ => 0) ⟨#[], args, []⟩).Shaped C.prog)
    (hok : Input.okWideB C.prog (w0.forCall (fun _ _ => 0) ⟨#[], args, []⟩) f ⟨#[], args, []⟩ = true)
    (hrow : s.preRow enc C.prog fn conds apart laid (w0.forCall (fun _ _ => 0) ⟨#[], args, []⟩).memory args) :
    ∃ (w : World) (tape : Tape) (i : Input), w.os = os ∧ (w.forCall tape i).Shaped C.prog ∧ i.vars = [] ∧ Input.okWide C.prog (w.forCall tape i) .any w.heap.size f i ∧
      s.preRow enc C.prog fn conds apart laid (w.forCall tape i).memory i.args ∧ ({ modest := modest } : Assume).holds C.prog (lone (Frame.enter C.prog f i.args .normal) [] (w.forCall tape i)) :=
  ⟨w0, fun _ _ => 0, ⟨#[], args, []⟩, hos, hsh, (Input.okWide_of_okWideB (base := 0) hok).1, (Input.okWide_of_okWideB hok).2, hrow, by
    simp only [Assume.holds]
    exact ⟨by simp, by simp, fun _ => Modest.zero, by simp, by simp⟩⟩

theorem reads (os : Os) {H : Type} (enc : TypeId × Value → H) : ∃ places, DataW.whole enc Tryd.prog ((World.laidAll Tryd.prog os Rows.fnDNBackRow.laid).forCall (fun _ _ => 0) ⟨#[], #[.slice none 0 0], []⟩).memory Tryd.f3.params.toList Rows.fnDNBackSpec.vars false #[Value.slice none 0 0].toList 8 = some ([.nil], [], places) :=
  ⟨[], by kernel_rfl⟩

set_option maxRecDepth 100000 in
theorem lifted (os : Os) (started : os.Started) (H : Type) (enc : TypeId × Value → H) (F : Stop.Interp) :
    ReturnsInHanded {} Tryd.checked os 3 .any ((Rows.OpenSpec.upto Rows.fnDNBackSpec).preRow enc Tryd.prog Tryd.f3 Rows.fnDNBackUptoRow.domain false Rows.fnDNBackUptoRow.laid)
      (((Rows.OpenSpec.upto Rows.fnDNBackSpec).at F).post enc Tryd.prog Tryd.f3 false true false false) := by
  obtain ⟨places, hx⟩ := reads os enc
  refine returnsInHanded_of_row (C := Tryd.checked) (s := Rows.OpenSpec.upto Rows.fnDNBackSpec) own started (by kernel_rfl) Tryd.func3
    (witness_row_shaped (enc := enc) (C := Tryd.checked) false (World.laidAll Tryd.prog os Rows.fnDNBackRow.laid) #[.slice none 0 0] (World.laidAll_os _ _ _)
      (World.shaped_of_ZipB (by kernel_rfl) (by kernel_rfl)) (by kernel_rfl)
      (OpenSpec.preRow_of_cond 8 hx (by kernel_rfl) (fun k hk => by cases hk; kernel_rfl) (by kernel_rfl)
        (by rw [MakeChecks.laidMetH_plain _ _ _ (by kernel_rfl)]; exact laidMet_laidAll _ (by kernel_rfl) (by kernel_rfl)))) ?_
  intro W base args ds gs before hval0 hW _ hcond _ hL _ _
  have hval : ∀ (j : Nat) t v, Tryd.f3.params[j]? = some t → args[j]? = some v → Value.okWide Tryd.prog W .any base t v := hval0
  have hW' := hW
  obtain ⟨p, q, hA0, hV, rfl, _, _⟩ := hW
  have hA : DataW.TrodAll enc Tryd.prog W 0 (fun _ => true) true Tryd.f3.params.toList args.toList ds p := hA0
  rw [Tryd.params3] at hA hval
  obtain ⟨v0, vs0, d0, ds0, p0, q0, hargs, rfl, rfl, h0, r0⟩ := trodAll_cons hA
  obtain ⟨rfl, rfl, rfl⟩ := trodAll_nil r0
  obtain rfl : args = #[v0] := by cases args; simp_all
  obtain ⟨rfl, rfl⟩ := trodVars_none hV
  have hbulk : Rows.uptoBulk d0 ≤ 1048576 := by
    have h1 := of_decide_eq_true (hcond _ rfl)
    simp only [List.append_nil, Rows.uptoBulkAll] at h1
    omega
  have k0 := h0
  have lt0 : ∀ x ∈ p0, x.block < W.heap.size := by obtain ⟨m, hm⟩ := k0; exact DataW.trod_lt m _ _ _ hm
  obtain ⟨l0, A0, c0, rfl, hc0, hr0, hS⟩ := open_dn_bulk (okWide_slice Tryd.underlying22 (hval 0 22 v0 rfl rfl)) h0
  refine (back_walk A0 c0 l0 W (hS hbulk) hr0 hc0).mono fun e W' ⟨he, hw⟩ => ?_
  subst he
  exact ⟨_, rfl, _, _, _, [], _, [], hW', trodAll_mk1 (shut_bool Tryd.underlying4 _), trodAll_cons_mk (Below.trod laidOut (by kernel_rfl) (of_decide_eq_true (by kernel_rfl)) k0 hw lt0) trodAll_mk0, rfl, hw.frame _, fun h => by cases h⟩

theorem saidUpto : Rows.FnDNBackUptoSaid :=
  OpenClaim.holds_of_cond 3 Tryd.f3 rfl rfl rfl rfl rfl rfl rfl ⟨rfl, rfl, rfl, rfl, rfl⟩ rfl rfl rfl rfl rfl (by kernel_rfl) Tryd.func3 (by kernel_rfl)
    (of_decide_eq_true (by kernel_rfl)) (by unfold Func.isWrapper; first | (rw [if_pos (by decide +kernel)]; kernel_rfl) | (rw [if_neg (by decide +kernel)]; exact ⟨rfl, rfl⟩))
    (fun os started H enc _ F => by rw [OpenClaim.pre_eq_preRow]; exact lifted os started H enc F)

theorem plain (f : FuncId) (fn : Func) (hf : Tryd.pinned.checked.prog.funcNamed "pub-streamkeep/laws.FnDNBack" = some f) (hfn : Tryd.pinned.checked.prog.funcs[f]? = some fn) :
    false = Tryd.pinned.checked.prog.looks [] ∧ ∀ (j : Nat) t, fn.params[j]? = some t → Tryd.pinned.checked.prog.wantsStandIn t = false := by
  obtain rfl : f = 3 := Option.some.inj ((show Tryd.prog.funcNamed "pub-streamkeep/laws.FnDNBack" = some 3 by kernel_rfl).symm.trans hf) |>.symm
  obtain rfl : fn = Tryd.f3 := (Option.some.inj (Tryd.func3.symm.trans hfn)).symm
  refine ⟨by kernel_rfl, fun j t ht => ?_⟩
  rw [Tryd.params3] at ht
  have hm : t ∈ [22] := by simpa using Array.mem_of_getElem? ht
  have hall : ([22].all fun u => !Tryd.prog.wantsStandIn u) = true := by kernel_rfl
  exact (show Tryd.prog.wantsStandIn t = false by simpa using List.all_eq_true.1 hall t hm)

theorem card : Rows.FnDNBackUptoCardSaid :=
  Claim7.holds_tied_plain_at .later [] _ _ _ _ saidUpto (fun _ h => by cases h) (by kernel_rfl) (fun _ h => by cases h) fnDNBackUpto_row_tie rfl ⟨rfl, rfl⟩ (by kernel_rfl) rfl plain (by kernel_rfl)
#print axioms card
end Go.Proofs.YtdacmcbipnnneaaDoor.fnDNBack
