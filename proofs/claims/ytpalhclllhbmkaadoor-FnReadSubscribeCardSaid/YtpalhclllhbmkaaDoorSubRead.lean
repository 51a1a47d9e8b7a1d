/- FnReadSubscribe: for any bytes and either kind the law returns true, and its arguments read as they did. The listed variables are tied to the program's text; the walk reads one of them, that a packet's identifier of zero is an error. -/
import Derived.Test.YtpalhclllhbmkaaDoorCards
import Derived.Test.YtpalhclllhbmkaaDoorTie
import Derived.Test.YtpalhclllhbmkaaDoorSubPZ
import Derived.ProofKit
import Derived.OpenShut
import Derived.LaidMore
import Derived.Lay
import Derived.SevenTiedAt
import Derived.Stop.Joined
import Derived.Stop.LaidErr
namespace Go.Proofs.YtpalhclllhbmkaaDoor.fnReadSubscribe
open Go.ChangeShapes Go.WideShapes Go.ChangeAt Go.RowKit
open Go.ChangeMaps (open_string shut_string)

theorem own : ownKnob Tryd.prog.godebug = none := by kernel_rfl

theorem star : "*" ++ "errors.errorString" = "*errors.errorString" := by decide
theorem row117 (u : TypeId) (h : Tryd.prog.typeName? 3 u = some "*errors.errorString") : u = 117 :=
  typeName_ptr_named (nm := "errors.errorString") (by rw [star]; kernel_rfl) (by kernel_rfl) (by decide) u (by rw [star]; exact h)
/-- What the list gives: the variable holds an error. -/
theorem zero_err {W : World} (h : laidMetH Tryd.prog Rows.fnReadSubscribeRow.laid W) : ∃ q : Addr, W.cell? ⟨5, 0, none⟩ = some (.iface 117 (.pointer (some q))) := by
  rw [MakeChecks.laidMetH_plain _ _ _ (by kernel_rfl)] at h
  have h3 := laidMet.tail (laidMet.tail (laidMet.tail h))
  obtain ⟨a, s, hv, _⟩ := laid_sentinel (g := 5) (ti := 49) (tp := 117) (te := 119) (ts := 9) h3 (by kernel_rfl) (by kernel_rfl) Tryd.underlying49 row117 Tryd.underlying117 Tryd.underlying119 rfl rfl Tryd.underlying9 (by kernel_rfl) (by kernel_rfl)
  have := World.var?_cell (show Tryd.prog.globalNamed "pub-streamkeep/pub/natsserver/server.errMQTTPacketIdentifierIsZero" = some 5 by kernel_rfl) hv 0
  exact ⟨a, by simpa using this⟩
theorem walk (a0 : ByteArray) (a1 : Bool) (w : World) (hq : ∃ q : Addr, w.cell? ⟨5, 0, none⟩ = some (.iface 117 (.pointer (some q)))) :
    Calls Tryd.prog 6 #[.string a0, .bool a1] w fun e w' => e = .returned (.bool true) ∧ Below w.heap.size w w' := by
  obtain ⟨q, hq⟩ := hq
  exact PXS.sub_walk a0 a1 w q hq

set_option maxRecDepth 100000 in
theorem lifted (os : Os) (started : os.Started) (H : Type) (enc : TypeId × Value → H) :
    ReturnsInHanded {} Tryd.checked os 6 .any (fun w args => (Rows.fnReadSubscribeSpec.pre enc Tryd.prog Tryd.f6 Rows.fnReadSubscribeRow.domain false w args ∧ laidMetH Tryd.prog Rows.fnReadSubscribeRow.laid w) ∧ sizedMet enc Tryd.prog Tryd.f6 (OpenSpec.ofChange Rows.fnReadSubscribeSpec) false w args)
      (Rows.fnReadSubscribeSpec.post enc Tryd.prog Tryd.f6 false true false false) := by
  refine returnsInHanded_of_change_and (C := Tryd.checked) (X := fun w _ => laidMetH Tryd.prog Rows.fnReadSubscribeRow.laid w) (fun _ _ _ hh h => h.of_heap hh) own started (by kernel_rfl) Tryd.func6
    (ChangeSpec.witness_shaped (enc := enc) (C := Tryd.checked) (os := os) (X := fun w _ => laidMetH Tryd.prog Rows.fnReadSubscribeRow.laid w) false (World.laidAll Tryd.prog os Rows.fnReadSubscribeRow.laid) #[.string ByteArray.empty, .bool false] 8 (World.laidAll_os _ _ _)
      (World.shaped_of_ZipB (by kernel_rfl) (by kernel_rfl)) (by kernel_rfl) (by kernel_rfl) (by kernel_rfl)
      (by rw [MakeChecks.laidMetH_plain _ _ _ (by kernel_rfl)]; exact laidMet_laidAll _ (by kernel_rfl) (by kernel_rfl))) ?_
  intro W base args ds gs before hval0 hW hc _ hL _
  have hval : ∀ (j : Nat) t v, Tryd.f6.params[j]? = some t → args[j]? = some v → Value.okWide Tryd.prog W .any base t v := hval0
  have hW' := hW
  obtain ⟨p, q, hA0, hV, rfl, _, _⟩ := hW
  have hA : DataW.TrodAll enc Tryd.prog W 0 (fun _ => true) true Tryd.f6.params.toList args.toList ds p := hA0
  rw [Tryd.params6] at hA hval
  obtain ⟨v0, vs0, d0, ds0, p0, q0, hargs, rfl, rfl, h0, r0⟩ := trodAll_cons hA
  obtain ⟨v1, vs1, d1, ds1, p1, q1, rfl, rfl, rfl, h1, r1⟩ := trodAll_cons r0
  obtain ⟨rfl, rfl, rfl⟩ := trodAll_nil r1
  obtain rfl : args = #[v0, v1] := by cases args; simp_all
  obtain ⟨rfl, rfl⟩ := trodVars_none hV
  obtain ⟨a0, rfl, rfl, rfl, wf0⟩ := open_string Tryd.underlying9 (hval 0 9 v0 rfl rfl) h0
  obtain ⟨a1, rfl, rfl, rfl⟩ := open_bool Tryd.underlying4 (hval 1 4 v1 rfl rfl) h1
  refine (walk a0 a1 W (zero_err hL)).mono fun e W' ⟨he, hw⟩ => ?_
  subst he
  exact ⟨_, rfl, _, _, _, [], _, [], hW', trodAll_mk1 (shut_bool Tryd.underlying4 _), trodAll_cons_mk (shut_string Tryd.underlying9 wf0) (trodAll_cons_mk (shut_bool Tryd.underlying4 _) trodAll_mk0), rfl, hw.frame _, fun h => by cases h⟩

theorem said : Rows.FnReadSubscribeSaid :=
  OpenClaim.holds_of_wide 6 Tryd.f6 rfl rfl rfl rfl rfl rfl rfl ⟨rfl, rfl, rfl, rfl, rfl⟩ rfl rfl rfl rfl rfl (by kernel_rfl) Tryd.func6 (by kernel_rfl)
    (of_decide_eq_true (by kernel_rfl)) (by unfold Func.isWrapper; first | (rw [if_pos (by decide +kernel)]; kernel_rfl) | (rw [if_neg (by decide +kernel)]; exact ⟨rfl, rfl⟩))
    (fun os started H enc _ => lifted os started H enc)

theorem plain (f : FuncId) (fn : Func) (hf : Tryd.pinned.checked.prog.funcNamed "pub-streamkeep/laws.FnReadSubscribe" = some f) (hfn : Tryd.pinned.checked.prog.funcs[f]? = some fn) :
    false = Tryd.pinned.checked.prog.looks [] ∧ ∀ (j : Nat) t, fn.params[j]? = some t → Tryd.pinned.checked.prog.wantsStandIn t = false := by
  obtain rfl : f = 6 := Option.some.inj ((show Tryd.prog.funcNamed "pub-streamkeep/laws.FnReadSubscribe" = some 6 by kernel_rfl).symm.trans hf) |>.symm
  obtain rfl : fn = Tryd.f6 := (Option.some.inj (Tryd.func6.symm.trans hfn)).symm
  refine ⟨by kernel_rfl, fun j t ht => ?_⟩
  rw [Tryd.params6] at ht
  have hm : t ∈ [9, 4] := by simpa using Array.mem_of_getElem? ht
  have hall : ([9, 4].all fun u => !Tryd.prog.wantsStandIn u) = true := by kernel_rfl
  exact (show Tryd.prog.wantsStandIn t = false by simpa using List.all_eq_true.1 hall t hm)

theorem card : Rows.FnReadSubscribeCardSaid :=
  Claim7.holds_tied_plain_at .later [] _ _ _ _ said (fun _ h => by cases h) (by kernel_rfl) (fun _ h => by cases h) fnReadSubscribe_row_tie rfl ⟨rfl, rfl⟩ (by kernel_rfl) rfl plain (by kernel_rfl)
#print axioms card
end Go.Proofs.YtpalhclllhbmkaaDoor.fnReadSubscribe
