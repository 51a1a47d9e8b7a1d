/- FnSubscribeBack: for any identifier, any filters and either kind the law returns true, and its arguments read as they did. The listed variables are tied to the program's text; the walk reads none of them. -/
import Derived.Test.YtpalhclllhbmkaaDoorCards
import Derived.Test.YtpalhclllhbmkaaDoorTie
import Derived.Test.YtpalhclllhbmkaaDoorSubO
import Derived.ProofKit
import Derived.OpenShut
import Derived.LaidMore
import Derived.Lay
import Derived.SevenTiedAt
import Derived.Stop.Joined
import Derived.ChangeOld
import Derived.Carry
namespace Go.Proofs.YtpalhclllhbmkaaDoor.fnSubscribeBack
open Go.ChangeShapes Go.WideShapes Go.ChangeAt Go.RowKit
open Go.ChangeMaps (open_string shut_string)

open Go.Proofs.YtpalhclllhbmkaaDoorW.PrintWords Go.Proofs.YtpalhclllhbmkaaDoor.PXB
theorem laidOut : laidOutB Tryd.prog = true := by kernel_rfl
theorem own : ownKnob Tryd.prog.godebug = none := by kernel_rfl

theorem walk (a0 : Int) (A1 : Option Addr) (c1 : Nat) (l1 : List S44) (a2 : Bool) (w : World) (hr0 : 0 ≤ a0 ∧ a0 ≤ 65535) (hr1 : Kd.C k44 w A1 l1.length l1) (hc1 : l1.length ≤ c1) (hx1 : ∀ x ∈ l1, 0 ≤ x.f1) :
    Calls Tryd.prog 7 #[.int .u16 a0, .slice A1 l1.length c1, .bool a2] w fun e w' => e = .returned (.bool true) ∧ Below w.heap.size w w' := by
  obtain ⟨m0, rfl⟩ : ∃ m : Nat, a0 = m := ⟨a0.toNat, by omega⟩
  exact back_walk m0 (by omega) A1 c1 l1 a2 w hr1 hc1 hx1

set_option maxRecDepth 100000 in
theorem lifted (os : Os) (started : os.Started) (H : Type) (enc : TypeId × Value → H) :
    ReturnsInHanded {} Tryd.checked os 7 .any (fun w args => (Rows.fnSubscribeBackSpec.pre enc Tryd.prog Tryd.f7 Rows.fnSubscribeBackRow.domain false w args ∧ laidMetH Tryd.prog Rows.fnSubscribeBackRow.laid w) ∧ sizedMet enc Tryd.prog Tryd.f7 (OpenSpec.ofChange Rows.fnSubscribeBackSpec) false w args)
      (Rows.fnSubscribeBackSpec.post enc Tryd.prog Tryd.f7 false true false false) := by
  refine returnsInHanded_of_change_and (C := Tryd.checked) (X := fun w _ => laidMetH Tryd.prog Rows.fnSubscribeBackRow.laid w) (fun _ _ _ hh h => h.of_heap hh) own started (by kernel_rfl) Tryd.func7
    (ChangeSpec.witness_shaped (enc := enc) (C := Tryd.checked) (os := os) (X := fun w _ => laidMetH Tryd.prog Rows.fnSubscribeBackRow.laid w) false (World.laidAll Tryd.prog os Rows.fnSubscribeBackRow.laid) #[.int .u16 0, .slice none 0 0, .bool false] 8 (World.laidAll_os _ _ _)
      (World.shaped_of_ZipB (by kernel_rfl) (by kernel_rfl)) (by kernel_rfl) (by kernel_rfl) (by kernel_rfl)
      (by rw [MakeChecks.laidMetH_plain _ _ _ (by kernel_rfl)]; exact laidMet_laidAll _ (by kernel_rfl) (by kernel_rfl))) ?_
  intro W base args ds gs before hval0 hW hc _ hL _
  have hval : ∀ (j : Nat) t v, Tryd.f7.params[j]? = some t → args[j]? = some v → Value.okWide Tryd.prog W .any base t v := hval0
  have hW' := hW
  obtain ⟨p, q, hA0, hV, rfl, _, _⟩ := hW
  have hA : DataW.TrodAll enc Tryd.prog W 0 (fun _ => true) true Tryd.f7.params.toList args.toList ds p := hA0
  rw [Tryd.params7] at hA hval
  obtain ⟨v0, vs0, d0, ds0, p0, q0, hargs, rfl, rfl, h0, r0⟩ := trodAll_cons hA
  obtain ⟨v1, vs1, d1, ds1, p1, q1, rfl, rfl, rfl, h1, r1⟩ := trodAll_cons r0
  obtain ⟨v2, vs2, d2, ds2, p2, q2, rfl, rfl, rfl, h2, r2⟩ := trodAll_cons r1
  obtain ⟨rfl, rfl, rfl⟩ := trodAll_nil r2
  obtain rfl : args = #[v0, v1, v2] := by cases args; simp_all
  obtain ⟨rfl, rfl⟩ := trodVars_none hV
  obtain ⟨a0, rfl, rfl, rfl, wf0⟩ := open_int Tryd.underlying28 (hval 0 28 v0 rfl rfl) h0
  have k1 := h1
  have lt1 : ∀ x ∈ p1, x.block < W.heap.size := by obtain ⟨m, hm⟩ := k1; exact DataW.trod_lt m _ _ _ hm
  obtain ⟨l1, A1, c1, rfl, hc1, hr1, hx1⟩ := open_filters (okWide_slice Tryd.underlying40 (hval 1 40 v1 rfl rfl)) h1
  obtain ⟨a2, rfl, rfl, rfl⟩ := open_bool Tryd.underlying4 (hval 2 4 v2 rfl rfl) h2
  have hr0 : 0 ≤ a0 ∧ a0 ≤ 65535 := by
    have := wf0
    simp only [Lit.wf, IntKind.min, IntKind.max, IntKind.signed, IntKind.bits, Bool.and_eq_true] at this
    simp at this
    omega
  refine (walk a0 A1 c1 l1 a2 W hr0 hr1 hc1 hx1).mono fun e W' ⟨he, hw⟩ => ?_
  subst he
  exact ⟨_, rfl, _, _, _, [], _, [], hW', trodAll_mk1 (shut_bool Tryd.underlying4 _), trodAll_cons_mk (shut_int Tryd.underlying28 wf0) (trodAll_cons_mk (Below.trod laidOut (by kernel_rfl) (of_decide_eq_true (by kernel_rfl)) k1 hw lt1) (trodAll_cons_mk (shut_bool Tryd.underlying4 _) trodAll_mk0)), rfl, hw.frame _, fun h => by cases h⟩

theorem said : Rows.FnSubscribeBackSaid :=
  OpenClaim.holds_of_wide 7 Tryd.f7 rfl rfl rfl rfl rfl rfl rfl ⟨rfl, rfl, rfl, rfl, rfl⟩ rfl rfl rfl rfl rfl (by kernel_rfl) Tryd.func7 (by kernel_rfl)
    (of_decide_eq_true (by kernel_rfl)) (by unfold Func.isWrapper; first | (rw [if_pos (by decide +kernel)]; kernel_rfl) | (rw [if_neg (by decide +kernel)]; exact ⟨rfl, rfl⟩))
    (fun os started H enc _ => lifted os started H enc)

theorem plain (f : FuncId) (fn : Func) (hf : Tryd.pinned.checked.prog.funcNamed "pub-streamkeep/laws.FnSubscribeBack" = some f) (hfn : Tryd.pinned.checked.prog.funcs[f]? = some fn) :
    false = Tryd.pinned.checked.prog.looks [] ∧ ∀ (j : Nat) t, fn.params[j]? = some t → Tryd.pinned.checked.prog.wantsStandIn t = false := by
  obtain rfl : f = 7 := Option.some.inj ((show Tryd.prog.funcNamed "pub-streamkeep/laws.FnSubscribeBack" = some 7 by kernel_rfl).symm.trans hf) |>.symm
  obtain rfl : fn = Tryd.f7 := (Option.some.inj (Tryd.func7.symm.trans hfn)).symm
  refine ⟨by kernel_rfl, fun j t ht => ?_⟩
  rw [Tryd.params7] at ht
  have hm : t ∈ [28, 40, 4] := by simpa using Array.mem_of_getElem? ht
  have hall : ([28, 40, 4].all fun u => !Tryd.prog.wantsStandIn u) = true := by kernel_rfl
  exact (show Tryd.prog.wantsStandIn t = false by simpa using List.all_eq_true.1 hall t hm)

theorem card : Rows.FnSubscribeBackCardSaid :=
  Claim7.holds_tied_plain_at .later [] _ _ _ _ said (fun _ h => by cases h) (by kernel_rfl) (fun _ h => by cases h) fnSubscribeBack_row_tie rfl ⟨rfl, rfl⟩ (by kernel_rfl) rfl plain (by kernel_rfl)
#print axioms card
end Go.Proofs.YtpalhclllhbmkaaDoor.fnSubscribeBack
