/- The walk of NewSubjectTransformWithStrict: a round where the source has no wildcard. -/
import Derived.Test.YtpiceaehfpljnaaDoorMpQ
namespace Go.Proofs.YtpiceaehfpljnaaDoor
open Go.RowKit Mp Mpm
attribute [local go_sem ↓] Go.wp_at_zero Go.wp_at_succ
set_option linter.unusedVariables false
set_option linter.unusedSimpArgs false
set_option maxRecDepth 1000000
set_option maxHeartbeats 8000000

theorem word4 (u : Nat → Value) (w0 : World) (B gd c : Nat) (ds : List ByteArray) (t : ByteArray) (ps : List Ph) (W : World) (Q : Exit → Act → World → Prop) (hSur : Sur W) (hS : StrsAt W gd ds) (hR : RW w0 B W (u 16) (u 17) (u 18) (u 19) ps) (hk : ps.length < ds.length) (hl : ds.length < 1000) (ht : ds[ps.length]? = some t) (hC : PhC t (.ok 0 [-1] (-1)))
    (u2 : u 2 = .bool false) (u81 : u 199 = .slice (some ⟨gd, 0, none⟩) ds.length c) (u82 : u 200 = .int .i64 (ds.length : Nat)) (u83 : u 201 = .int .i64 (ps.length : Nat))
    (HQ : Hid (∀ a W', a = FrameU (uOf a) → KeepU u (uOf a) → uOf a 20 = u 20 → uOf a 23 = u 23 → uOf a 199 = u 199 → uOf a 200 = u 200 → uOf a 201 = .int .i64 ((ps.length + 1 : Nat) : Int) → RW w0 B W' (uOf a 16) (uOf a 17) (uOf a 18) (uOf a 19) (ps ++ [⟨0, [-1], -1⟩]) → Q .normal a W')) :
    Code.wp Tryd.prog (L32 2) Q (FrameU u) W := by
  obtain ⟨y0, hy0, hy1, hy2, hy3⟩ := info_parts info90
  obtain ⟨x0, hx0, hx1, hx2, hx3⟩ := info_parts info53
  obtain ⟨i0, hi0, hi1, hi2, hi3⟩ := info_parts info21
  obtain ⟨z0, hz0, hz1, hz2, hz3⟩ := info_parts info9
  have d1 : decide ((ps.length : Int) < (ds.length : Int)) = true := decide_eq_true (by omega)
  have d2 : decide (ps.length < ds.length) = true := decide_eq_true hk
  have c0 := hS.2 ps.length hk
  have htt : ds[ps.length] = t := by rw [List.getElem?_eq_getElem hk] at ht; exact Option.some.inj ht
  rw [htt] at c0
  obtain ⟨v16, e16⟩ : ∃ v, u 16 = v := ⟨_, rfl⟩
  obtain ⟨v17, e17⟩ : ∃ v, u 17 = v := ⟨_, rfl⟩
  obtain ⟨v18, e18⟩ : ∃ v, u 18 = v := ⟨_, rfl⟩
  obtain ⟨v19, e19⟩ : ∃ v, u 19 = v := ⟨_, rfl⟩
  rw [e16, e17, e18, e19] at hR
  have HR := Lib.hid hR
  have HSur := Lib.hid hSur
  have HC := Lib.hid (hC W hSur)
  clear hS hR hSur hC ht htt
  unfold FrameU
  conv => arg 2; whnf
  go_wp2_with fail
  refine HC.out.mono ?_
  rintro e W0 ⟨g0, c0', rfl, hI0, hb0⟩
  have HR0 := Lib.hid (HR.out.later hb0)
  clear hI0 hb0
  have hbw := HR0.out.bw
  obtain ⟨xs, hxs, hXs⟩ := HR0.out.x
  obtain ⟨zs, hzs⟩ := HR0.out.z
  have HXO := Lib.hid hxs
  have HXS := Lib.hid hXs
  have HZO := Lib.hid hzs
  clear hxs hXs hzs
  go_wp2_with (at_builtin; refine wpList_append_lies _ rfl (.tmp 218) (.tmp 219) 68 rfl B 90 y0 (.int .i16 0) 1 2 Tryd.underlying68 hy0 hy1 hy2 hy3 rfl (by omega) v16 ps.length (ps.map fun p => .int .i16 p.ty) rfl (HR0.out.y.alloc _) ⟨W0.heap.size, 0, none⟩ 1 1 [.int .i16 0] rfl rfl (World.news_of_block (cs := #[.int .i16 0]) (t := 90) (fr := (0, 0)) (heap_alloc_new _ _)) (by simp [Value.oneCell']) (by omega) (by unfold maxLen; omega) (by omega) (by simp; omega) _ rfl ?_)
  intro g1 cp1 W1 own1 grow1 at1 lt1
  have K1 := Lib.hid (kc_app HR0.out.y grow1 hbw)
  have O1 := Lib.hid own1
  have hbw1 : B ≤ W1.heap.size := Nat.le_trans hbw K1.out.2.size
  clear own1 grow1 at1 lt1
  have O2 : Hid (((W1.alloc (.cells #[.int .i64 (-1)] 3)).alloc (.cells #[.slice (some ⟨W1.heap.size, 0, none⟩) 1 1] 53)).ownsRow B 53 1 v17 ps.length xs) := Lib.hid (((own_kc HXO.out K1.out.1 (by decide)).alloc _).alloc _)
  have N2 : Hid (((W1.alloc (.cells #[.int .i64 (-1)] 3)).alloc (.cells #[.slice (some ⟨W1.heap.size, 0, none⟩) 1 1] 53)).heap[W1.heap.size + 1]? = some (.cells #[.slice (some ⟨W1.heap.size, 0, none⟩) 1 1] 53 (0, 0))) := Lib.hid (heap_alloc2 W1 _ _)
  go_wp2_with (at_builtin; refine wpList_append_lies _ rfl (.tmp 221) (.tmp 223) 69 rfl B 53 x0 (.slice none 0 0) 1 24 Tryd.underlying69 hx0 hx1 hx2 hx3 rfl (by omega) v17 ps.length xs rfl O2.out ⟨W1.heap.size + 1, 0, none⟩ 1 1 [.slice (some ⟨W1.heap.size, 0, none⟩) 1 1] rfl rfl (World.news_of_block N2.out) (by simp [Value.oneCell']) (by omega) (by unfold maxLen; omega) (by omega) (by simp; omega) _ rfl ?_)
  intro g2 cp2 W2 own2 grow2 at2 lt2
  have K2 := Lib.hid (kc_app2 (own_kc HXO.out K1.out.1 (by decide)) grow2 hbw1)
  have X2 : Hid (W2.heap[W1.heap.size]? = some (.cells #[.int .i64 (-1)] 3 (0, 0))) := Lib.hid (by
    have h1 : ((W1.alloc (.cells #[.int .i64 (-1)] 3)).alloc (.cells #[.slice (some ⟨W1.heap.size, 0, none⟩) 1 1] 53)).heap[W1.heap.size]? = some (.cells #[.int .i64 (-1)] 3 (0, 0)) := by
      rw [heap_alloc_old _ _ (by simp)]; exact heap_alloc_last W1 _
    exact (grow2.block _ (by simp; omega) (own_typ' O2.out h1 (by decide))).trans h1)
  have O2 := Lib.hid own2
  have hbw2 : B ≤ W2.heap.size := Nat.le_trans hbw1 K2.out.2.size
  clear own2 grow2 at2 lt2
  have O3 : Hid ((W2.alloc (.cells #[.int .i32 (-1)] 21)).ownsRow B 21 1 v18 ps.length (ps.map fun p => .int .i32 p.n)) := Lib.hid ((own_kc (own_kc HR0.out.i K1.out.1 (by decide)) K2.out.1 (by decide)).alloc _)
  have N3 : Hid ((W2.alloc (.cells #[.int .i32 (-1)] 21)).heap[W2.heap.size]? = some (.cells #[.int .i32 (-1)] 21 (0, 0))) := Lib.hid (heap_alloc_last W2 _)
  go_wp2_with (at_builtin; refine wpList_append_lies _ rfl (.tmp 225) (.tmp 226) 70 rfl B 21 i0 (.int .i32 0) 1 4 Tryd.underlying70 hi0 hi1 hi2 hi3 rfl (by omega) v18 ps.length (ps.map fun p => .int .i32 p.n) rfl O3.out ⟨W2.heap.size, 0, none⟩ 1 1 [.int .i32 (-1)] rfl rfl (World.news_of_block N3.out) (by simp [Value.oneCell']) (by omega) (by unfold maxLen; omega) (by omega) (by simp; omega) _ rfl ?_)
  intro g3 cp3 W3 own3 grow3 at3 lt3
  have K3 := Lib.hid (kc_app (own_kc (own_kc HR0.out.i K1.out.1 (by decide)) K2.out.1 (by decide)) grow3 hbw2)
  have O3 := Lib.hid own3
  have hbw3 : B ≤ W3.heap.size := Nat.le_trans hbw2 K3.out.2.size
  clear own3 grow3 at3 lt3
  have O4 : Hid ((W3.alloc (.cells #[.string ⟨#[]⟩] 9)).ownsRow B 9 1 v19 ps.length zs) := Lib.hid ((own_kc (own_kc (own_kc HZO.out K1.out.1 (by decide)) K2.out.1 (by decide)) K3.out.1 (by decide)).alloc _)
  have N4 : Hid ((W3.alloc (.cells #[.string ⟨#[]⟩] 9)).heap[W3.heap.size]? = some (.cells #[.string ⟨#[]⟩] 9 (0, 0))) := Lib.hid (heap_alloc_last W3 _)
  go_wp2_with (at_builtin; refine wpList_append_lies _ rfl (.tmp 228) (.tmp 229) 23 rfl B 9 z0 (.string ⟨#[]⟩) 1 16 Tryd.underlying23 hz0 hz1 hz2 hz3 rfl (by omega) v19 ps.length zs rfl O4.out ⟨W3.heap.size, 0, none⟩ 1 1 [.string ⟨#[]⟩] rfl rfl (World.news_of_block N4.out) (by simp [Value.oneCell']) (by omega) (by unfold maxLen; omega) (by omega) (by simp; omega) _ rfl ?_)
  intro g4 cp4 W4 own4 grow4 at4 lt4
  have K4 := Lib.hid (kc_app (own_kc (own_kc (own_kc HZO.out K1.out.1 (by decide)) K2.out.1 (by decide)) K3.out.1 (by decide)) grow4 hbw3)
  have O4 := Lib.hid own4
  have hbw4 : B ≤ W4.heap.size := Nat.le_trans hbw3 K4.out.2.size
  clear own4 grow4 at4 lt4
  have HF : Hid (RW w0 B W4 (.slice (some ⟨g1, 0, none⟩) (ps.length + 1) cp1) (.slice (some ⟨g2, 0, none⟩) (ps.length + 1) cp2) (.slice (some ⟨g3, 0, none⟩) (ps.length + 1) cp3) (.slice (some ⟨g4, 0, none⟩) (ps.length + 1) cp4) (ps ++ [⟨0, [-1], -1⟩])) := Lib.hid (by
    have hx2 : Xs W2 (xs ++ [.slice (some ⟨W1.heap.size, 0, none⟩) 1 1]) (ps ++ [⟨0, [-1], -1⟩]) := ((HXS.out.kc K1.out.1 (by decide)).kc K2.out.1 (by decide)).snoc ⟨W1.heap.size, 1, #[.int .i64 (-1)], rfl, X2.out, fun j hj => by
      match j, hj with
      | 0, _ => rfl
      | j + 1, hj => exact absurd hj (by simp)⟩
    refine ⟨HR0.out.below.trans (K1.out.2.trans (K2.out.2.trans (K3.out.2.trans K4.out.2))), hbw4, ?_, ⟨xs ++ [.slice (some ⟨W1.heap.size, 0, none⟩) 1 1], ?_, (hx2.kc K3.out.1 (by decide)).kc K4.out.1 (by decide)⟩, ?_, ⟨zs ++ [.string ⟨#[]⟩], ?_⟩⟩
    · have := own_kc (own_kc (own_kc O1.out K2.out.1 (by decide)) K3.out.1 (by decide)) K4.out.1 (by decide)
      simpa using this
    · have := own_kc (own_kc O2.out K3.out.1 (by decide)) K4.out.1 (by decide)
      simpa using this
    · have := own_kc O3.out K4.out.1 (by decide)
      simpa using this
    · have := O4.out
      rw [List.length_append]
      exact this)
  go_wp2_with fail
  exact HQ.out _ W4 (by kernel_rfl) (by unfold KeepU; exact ⟨rfl, rfl, u2.symm, rfl, rfl, rfl, rfl, rfl, rfl, rfl, rfl, rfl, rfl, rfl, rfl, rfl⟩) rfl rfl u81.symm u82.symm rfl HF.out
end Go.Proofs.YtpiceaehfpljnaaDoor
