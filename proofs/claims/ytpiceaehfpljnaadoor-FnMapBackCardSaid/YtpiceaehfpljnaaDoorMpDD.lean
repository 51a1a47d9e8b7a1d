/- The walk of NewSubjectTransformWithStrict: the rounds that refuse. -/
import Derived.Test.YtpiceaehfpljnaaDoorMpT
namespace Go.Proofs.YtpiceaehfpljnaaDoor
open Go.RowKit Mp Mpm
attribute [local go_sem ↓] Go.wp_at_zero Go.wp_at_succ
set_option linter.unusedVariables false
set_option linter.unusedSimpArgs false
set_option maxRecDepth 1000000
set_option maxHeartbeats 8000000

theorem errBad (u : Nat → Value) (gd c k : Nat) (ds : List ByteArray) (t : ByteArray) (W : World) (Q : Exit → Act → World → Prop) (hSur : Sur W) (hS : StrsAt W gd ds) (hk : k < ds.length) (hl : ds.length < 1000) (ht : ds[k]? = some t) (hC : PhC t .bad)
    (u2 : u 2 = .bool false) (u81 : u 102 = .slice (some ⟨gd, 0, none⟩) ds.length c) (u82 : u 103 = .int .i64 (ds.length : Nat)) (u83 : u 104 = .int .i64 (k : Nat))
    (HQ : Hid (∀ a W' T q, a = FrameU (uOf a) → uOf a 6 = .pointer none → uOf a 7 = .iface T q → Below W.heap.size W W' → Q .ret a W')) :
    Code.wp Tryd.prog (L32 1) Q (FrameU u) W := by
  have d1 : decide ((k : Int) < (ds.length : Int)) = true := decide_eq_true (by omega)
  have d2 : decide (k < ds.length) = true := decide_eq_true hk
  have c0 := hS.2 k hk
  have htt : ds[k] = t := by rw [List.getElem?_eq_getElem hk] at ht; exact Option.some.inj ht
  rw [htt] at c0
  have HSur := Lib.hid hSur
  have HC := Lib.hid (hC W hSur)
  clear hS hSur hC ht htt
  unfold FrameU
  conv => arg 2; whnf
  go_wp2_with fail
  refine HC.out.mono ?_
  rintro e W0 ⟨va, vb, vc, vd, T, q, rfl, hb0⟩
  have HB0 := Lib.hid hb0
  clear hb0
  go_wp2_with fail
  exact HQ.out _ W0 T q (by kernel_rfl) rfl rfl HB0.out

theorem errWild (u : Nat → Value) (gd c k : Nat) (np kk : Nat) (num : Int) (ds : List ByteArray) (t : ByteArray) (W : World) (Q : Exit → Act → World → Prop) (hSur : Sur W) (hS : StrsAt W gd ds) (hk : k < ds.length) (hl : ds.length < 1000) (ht : ds[k]? = some t) (hC : PhC t (.ok 3 [(kk : Int)] num)) (hkk : np < kk) (N : Nat) (hN : N < 100000)
    (u2 : u 2 = .bool false) (u23 : u 23 = .int .i64 (N : Nat)) (u10 : u 10 = .int .i64 (np : Nat)) (u81 : u 102 = .slice (some ⟨gd, 0, none⟩) ds.length c) (u82 : u 103 = .int .i64 (ds.length : Nat)) (u83 : u 104 = .int .i64 (k : Nat))
    (HQ : Hid (∀ a W' T q, a = FrameU (uOf a) → uOf a 6 = .pointer none → uOf a 7 = .iface T q → Below W.heap.size W W' → Q .ret a W')) :
    Code.wp Tryd.prog (L32 1) Q (FrameU u) W := by
  have d1 : decide ((k : Int) < (ds.length : Int)) = true := decide_eq_true (by omega)
  have d2 : decide (k < ds.length) = true := decide_eq_true hk
  have c0 := hS.2 k hk
  have htt : ds[k] = t := by rw [List.getElem?_eq_getElem hk] at ht; exact Option.some.inj ht
  rw [htt] at c0
  have HSur := Lib.hid hSur
  have HC := Lib.hid (hC W hSur)
  clear hS hSur hC ht htt
  unfold FrameU
  conv => arg 2; whnf
  go_wp2_with fail
  refine HC.out.mono ?_
  rintro e W0 ⟨g0, c0', rfl, hI0, hb0⟩
  obtain ⟨T, q, hg5⟩ := (HSur.out.later hb0).g 5 (by decide)
  have hgd : W0.drew.cell? ⟨5, 0, none⟩ = some (.iface T q) := hg5
  have i0c := hI0.2 0 (by simp)
  rw [show ([(kk : Int)] : List Int)[0] = (kk : Int) from rfl] at i0c
  have k1 : decide ((np : Int) < (kk : Int)) = true := decide_eq_true (by omega)
  have k2 : decide (np < kk) = true := decide_eq_true (by omega)
  have HB0 := Lib.hid hb0
  clear hI0 hb0
  go_wp2_with fail
  refine wp_loop_rounds 1 ?_
  rw [rounds_succ]
  go_wp2_with fail
  go_region
  all_goals
    go_wp2_with fail
    exact HQ.out _ _ 80 _ (by kernel_rfl) rfl rfl (HB0.out.alloc HB0.out.size _).drew

theorem errPlain (u : Nat → Value) (gd c k : Nat) (np kk : Nat) (num : Int) (ds : List ByteArray) (t : ByteArray) (W : World) (Q : Exit → Act → World → Prop) (hSur : Sur W) (hS : StrsAt W gd ds) (hk : k < ds.length) (hl : ds.length < 1000) (ht : ds[k]? = some t) (hC : PhC t (.ok 3 [(kk : Int)] num)) (hkk : np < kk)
    (u81 : u 199 = .slice (some ⟨gd, 0, none⟩) ds.length c) (u82 : u 200 = .int .i64 (ds.length : Nat)) (u83 : u 201 = .int .i64 (k : Nat))
    (HQ : Hid (∀ a W' T q, a = FrameU (uOf a) → uOf a 6 = .pointer none → uOf a 7 = .iface T q → Below W.heap.size W W' → Q .ret a W')) :
    Code.wp Tryd.prog (L32 2) Q (FrameU u) W := by
  have d1 : decide ((k : Int) < (ds.length : Int)) = true := decide_eq_true (by omega)
  have d2 : decide (k < ds.length) = true := decide_eq_true hk
  have c0 := hS.2 k hk
  have htt : ds[k] = t := by rw [List.getElem?_eq_getElem hk] at ht; exact Option.some.inj ht
  rw [htt] at c0
  have HSur := Lib.hid hSur
  have HC := Lib.hid (hC W hSur)
  clear hS hSur hC ht htt
  unfold FrameU
  conv => arg 2; whnf
  go_wp2_with fail
  refine HC.out.mono ?_
  rintro e W0 ⟨g0, c0', rfl, hI0, hb0⟩
  obtain ⟨T, q, hg5⟩ := (HSur.out.later hb0).g 5 (by decide)
  have hgd : W0.drew.cell? ⟨5, 0, none⟩ = some (.iface T q) := hg5
  have i0c := hI0.2 0 (by simp)
  rw [show ([(kk : Int)] : List Int)[0] = (kk : Int) from rfl] at i0c
  have k1 : decide ((np : Int) < (kk : Int)) = true := decide_eq_true (by omega)
  have k2 : decide (np < kk) = true := decide_eq_true (by omega)
  have HB0 := Lib.hid hb0
  clear hI0 hb0
  go_wp2_with fail
  go_region
  all_goals
    go_wp2_with fail
    exact HQ.out _ _ 80 _ (by kernel_rfl) rfl rfl (HB0.out.alloc HB0.out.size _).drew

end Go.Proofs.YtpiceaehfpljnaaDoor
