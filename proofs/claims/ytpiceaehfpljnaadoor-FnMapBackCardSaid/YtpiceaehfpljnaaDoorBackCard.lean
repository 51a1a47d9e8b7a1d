/- FnMapBack: a strict mapping that names each wildcard once, in an order that is its own inverse, leads back: there and back is the subject. The listed variables are tied to the program's text; the walk asks of them only that they are errors. -/
import Derived.Test.YtpiceaehfpljnaaDoorCards
import Derived.Test.YtpiceaehfpljnaaDoorTie
import Derived.Test.YtpiceaehfpljnaaDoorMqQ
import Derived.Test.YtpiceaehfpljnaaDoorMpSur
import Derived.ProofKit
import Derived.OpenShut
import Derived.LaidMore
import Derived.Lay
import Derived.SevenTiedAt
import Derived.Stop.Joined
import Derived.ChangeOld
import Derived.Carry
namespace Go.Proofs.YtpiceaehfpljnaaDoor.fnMapBack
open Go.ChangeShapes Go.WideShapes Go.ChangeAt Go.RowKit
open Go.ChangeMaps (open_string shut_string)

theorem laidOut : laidOutB Tryd.prog = true := by kernel_rfl
theorem own : ownKnob Tryd.prog.godebug = none := by kernel_rfl

theorem walk (A0 : Option Addr) (c0 : Nat) (l0 : List ByteArray) (a1 : Bool) (A2 : Option Addr) (c2 : Nat) (l2 : List Pc) (A3 : Option Addr) (c3 : Nat) (l3 : List ByteArray) (A4 : Option Addr) (c4 : Nat) (l4 : List ByteArray) (w : World) (hq : Sur w) (hr0 : WsA w A0 l0) (hc0 : l0.length ≤ c0) (hr2 : DsA w A2 l2) (hc2 : l2.length ≤ c2) (hr3 : WsA w A3 l3) (hc3 : l3.length ≤ c3) (hr4 : WsA w A4 l4) (hc4 : l4.length ≤ c4) :
    Calls Tryd.prog 6 #[.slice A0 l0.length c0, .bool a1, .slice A2 l2.length c2, .slice A3 l3.length c3, .slice A4 l4.length c4] w fun e w' => e = .returned (.bool true) ∧ Below w.heap.size w w' := by
  exact (fun A c l r B c1 ds C c2 ss D c3 ts w h0 _ h2 _ h3 _ h4 _ hq => back_law A B C D c c1 c2 c3 l ss ts ds r w h0 h2 h3 h4 hq) A0 c0 l0 a1 A2 c2 l2 A3 c3 l3 A4 c4 l4 w hr0 hc0 hr2 hc2 hr3 hc3 hr4 hc4 hq

set_option maxRecDepth 100000 in
theorem lifted (os : Os) (started : os.Started) (H : Type) (enc : TypeId × Value → H) :
    ReturnsInHanded {} Tryd.checked os 6 .any (fun w args => (Rows.fnMapBackSpec.pre enc Tryd.prog Tryd.f6 Rows.fnMapBackRow.domain false w args ∧ laidMetH Tryd.prog Rows.fnMapBackRow.laid w) ∧ sizedMet enc Tryd.prog Tryd.f6 (OpenSpec.ofChange Rows.fnMapBackSpec) false w args)
      (Rows.fnMapBackSpec.post enc Tryd.prog Tryd.f6 false true false false) := by
  refine returnsInHanded_of_change_and (C := Tryd.checked) (X := fun w _ => laidMetH Tryd.prog Rows.fnMapBackRow.laid w) (fun _ _ _ hh h => h.of_heap hh) own started (by kernel_rfl) Tryd.func6
    (ChangeSpec.witness_shaped (enc := enc) (C := Tryd.checked) (os := os) (X := fun w _ => laidMetH Tryd.prog Rows.fnMapBackRow.laid w) false (World.laidAll Tryd.prog os Rows.fnMapBackRow.laid) #[.slice none 0 0, .bool false, .slice none 0 0, .slice none 0 0, .slice none 0 0] 8 (World.laidAll_os _ _ _)
      (World.shaped_of_ZipB (by kernel_rfl) (by kernel_rfl)) (by kernel_rfl) (by kernel_rfl) (by kernel_rfl)
      (by rw [MakeChecks.laidMetH_plain _ _ _ (by kernel_rfl)]; exact laidMet_laidAll _ (by kernel_rfl) (by kernel_rfl))) ?_
  intro W base args ds gs before hval0 hW hc _ hL _
  have hval : ∀ (j : Nat) t v, Tryd.f6.params[j]? = some t → args[j]? = some v → Value.okWide Tryd.prog W .any base t v := hval0
  have hW' := hW
  obtain ⟨p, q, hA0, hV, rfl, _, _⟩ := hW
  have hA : DataW.TrodAll enc Tryd.prog W 0 (fun _ => true) true Tryd.f6.params.toList args.toList ds p := hA0
  rw [Tryd.params6] at hA hval
  obtain ⟨v0, vs0, d0, ds0, p0, q0, hargs, rfl, rfl, h0, r0⟩ := trodAll_cons hA
  obtain ⟨v1, vs1, d1, ds1, p1, q1, rfl, rfl, rfl, h1, r1⟩ := trodAll_cons r0
  obtain ⟨v2, vs2, d2, ds2, p2, q2, rfl, rfl, rfl, h2, r2⟩ := trodAll_cons r1
  obtain ⟨v3, vs3, d3, ds3, p3, q3, rfl, rfl, rfl, h3, r3⟩ := trodAll_cons r2
  obtain ⟨v4, vs4, d4, ds4, p4, q4, rfl, rfl, rfl, h4, r4⟩ := trodAll_cons r3
  obtain ⟨rfl, rfl, rfl⟩ := trodAll_nil r4
  obtain rfl : args = #[v0, v1, v2, v3, v4] := by cases args; simp_all
  obtain ⟨rfl, rfl⟩ := trodVars_none hV
  have k0 := h0
  have lt0 : ∀ x ∈ p0, x.block < W.heap.size := by obtain ⟨m, hm⟩ := k0; exact DataW.trod_lt m _ _ _ hm
  obtain ⟨l0, A0, c0, rfl, hc0, hr0⟩ := open_words (okWide_slice Tryd.underlying23 (hval 0 23 v0 rfl rfl)) h0
  obtain ⟨a1, rfl, rfl, rfl⟩ := open_bool Tryd.underlying4 (hval 1 4 v1 rfl rfl) h1
  have k2 := h2
  have lt2 : ∀ x ∈ p2, x.block < W.heap.size := by obtain ⟨m, hm⟩ := k2; exact DataW.trod_lt m _ _ _ hm
  obtain ⟨l2, A2, c2, rfl, hc2, hr2⟩ := open_pieces (okWide_slice Tryd.underlying37 (hval 2 37 v2 rfl rfl)) h2
  have k3 := h3
  have lt3 : ∀ x ∈ p3, x.block < W.heap.size := by obtain ⟨m, hm⟩ := k3; exact DataW.trod_lt m _ _ _ hm
  obtain ⟨l3, A3, c3, rfl, hc3, hr3⟩ := open_words (okWide_slice Tryd.underlying23 (hval 3 23 v3 rfl rfl)) h3
  have k4 := h4
  have lt4 : ∀ x ∈ p4, x.block < W.heap.size := by obtain ⟨m, hm⟩ := k4; exact DataW.trod_lt m _ _ _ hm
  obtain ⟨l4, A4, c4, rfl, hc4, hr4⟩ := open_words (okWide_slice Tryd.underlying23 (hval 4 23 v4 rfl rfl)) h4
  refine (walk A0 c0 l0 a1 A2 c2 l2 A3 c3 l3 A4 c4 l4 W (sur_laid (by rw [MakeChecks.laidMetH_plain _ _ _ (by kernel_rfl)] at hL; exact hL)) hr0 hc0 hr2 hc2 hr3 hc3 hr4 hc4).mono fun e W' ⟨he, hw⟩ => ?_
  subst he
  exact ⟨_, rfl, _, _, _, [], _, [], hW', trodAll_mk1 (shut_bool Tryd.underlying4 _), trodAll_cons_mk (Below.trod laidOut (by kernel_rfl) (of_decide_eq_true (by kernel_rfl)) k0 hw lt0) (trodAll_cons_mk (shut_bool Tryd.underlying4 _) (trodAll_cons_mk (Below.trod laidOut (by kernel_rfl) (of_decide_eq_true (by kernel_rfl)) k2 hw lt2) (trodAll_cons_mk (Below.trod laidOut (by kernel_rfl) (of_decide_eq_true (by kernel_rfl)) k3 hw lt3) (trodAll_cons_mk (Below.trod laidOut (by kernel_rfl) (of_decide_eq_true (by kernel_rfl)) k4 hw lt4) trodAll_mk0)))), rfl, hw.frame _, fun h => by cases h⟩

theorem said : Rows.FnMapBackSaid :=
  OpenClaim.holds_of_wide 6 Tryd.f6 rfl rfl rfl rfl rfl rfl rfl ⟨rfl, rfl, rfl, rfl, rfl⟩ rfl rfl rfl rfl rfl (by kernel_rfl) Tryd.func6 (by kernel_rfl)
    (of_decide_eq_true (by kernel_rfl)) (by unfold Func.isWrapper; first | (rw [if_pos (by decide +kernel)]; kernel_rfl) | (rw [if_neg (by decide +kernel)]; exact ⟨rfl, rfl⟩))
    (fun os started H enc _ => lifted os started H enc)

theorem plain (f : FuncId) (fn : Func) (hf : Tryd.pinned.checked.prog.funcNamed "pub-streamkeep/laws.FnMapBack" = some f) (hfn : Tryd.pinned.checked.prog.funcs[f]? = some fn) :
    true = Tryd.pinned.checked.prog.looks [] ∧ ∀ (j : Nat) t, fn.params[j]? = some t → Tryd.pinned.checked.prog.wantsStandIn t = false := by
  obtain rfl : f = 6 := Option.some.inj ((show Tryd.prog.funcNamed "pub-streamkeep/laws.FnMapBack" = some 6 by kernel_rfl).symm.trans hf) |>.symm
  obtain rfl : fn = Tryd.f6 := (Option.some.inj (Tryd.func6.symm.trans hfn)).symm
  refine ⟨by kernel_rfl, fun j t ht => ?_⟩
  rw [Tryd.params6] at ht
  have hm : t ∈ [23, 4, 37, 23, 23] := by simpa using Array.mem_of_getElem? ht
  have hall : ([23, 4, 37, 23, 23].all fun u => !Tryd.prog.wantsStandIn u) = true := by kernel_rfl
  exact (show Tryd.prog.wantsStandIn t = false by simpa using List.all_eq_true.1 hall t hm)

theorem card : Rows.FnMapBackCardSaid :=
  Claim7.holds_tied_plain_at .later [] _ _ _ _ said (fun _ h => by cases h) (by kernel_rfl) (fun _ h => by cases h) fnMapBack_row_tie rfl ⟨rfl, rfl⟩ (by kernel_rfl) rfl plain (by kernel_rfl)
#print axioms card
end Go.Proofs.YtpiceaehfpljnaaDoor.fnMapBack
